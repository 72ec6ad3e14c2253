import Derived.Test.YbulkcwheNum
namespace Go.Proofs.Ybulkcwhe
open Go.RowKit

/-- A number's value: small, or an Int whose blocks lie below M. -/
def NumV (w : World) (M : Nat) (s : Int) (p : Option Addr) (ws : List Int) : Prop := (p = none ∧ ws = one s) ∨ (∃ gx, p = some ⟨gx, 0, none⟩ ∧ gx < M ∧ IntR w 0 gx ws)
theorem NumV.later {w w' : World} {M : Nat} {s : Int} {p : Option Addr} {ws : List Int} (h : NumV w M s p ws) (hb : Below w.heap.size w w') : NumV w' M s p ws := by
  rcases h with h | ⟨gx, h1, h2, h3⟩
  · exact .inl h
  · exact .inr ⟨gx, h1, h2, h3.later hb⟩

set_option maxHeartbeats 400000 in
/-- number.toBig into a new Int. -/
theorem toBig_any (B gz M : Nat) (x : Int) (p : Option Addr) (ws : List Int) (w : World) (hB : B ≤ gz) (hM : M ≤ gz) (hlen : ws.length ≤ 2) (rz : RowAt w gz 68 [.bool false, .slice none 0 0]) (hn : NumV w M x p ws) :
    Calls Yba.prog 25 #[.agg #[.int .u64 x, .pointer p], .pointer (some ⟨gz, 0, none⟩)] w fun e w' => e = .returned (.pointer (some ⟨gz, 0, none⟩)) ∧ IntS w' B gz ws ∧ Below B w w' := by
  have lz := rz.lt
  have rz' := rz.alloc (.cells #[.int .u64 x, .pointer p] 31)
  have hb0 : Below B w (w.alloc (.cells #[.int .u64 x, .pointer p] 31)) := (Below.refl _ w).alloc (by omega) _
  rcases hn with ⟨rfl, rfl⟩ | ⟨gx, rfl, h2, h3⟩
  · have K := hid (isetU_any B gz x _ hB rz')
    have B0 := hid hb0
    clear rz rz' hb0
    go_enter Yba.func25, Yba.ntmps25
    go_wp2_with (go_at_call 22; refine K.out.mono ?_; rintro e w' ⟨rfl, h1, h2⟩)
    go_ret
    exact ⟨rfl, h1, B0.out.trans h2⟩
  · have K := hid (iset_any B gz gx 0 ws _ hB (by omega) hlen rz' (h3.later ((Below.refl _ w).alloc (Nat.le_refl _) _)))
    have B0 := hid hb0
    clear rz rz' hb0 h3
    go_enter Yba.func25, Yba.ntmps25
    go_wp2_with (go_at_call 38; refine K.out.mono ?_; rintro e w' ⟨rfl, h1, h2⟩)
    go_ret
    exact ⟨rfl, h1, B0.out.trans h2⟩

set_option linter.unusedSimpArgs false in
set_option maxHeartbeats 400000 in
/-- number.plus of two small numbers whose sum fits. -/
theorem plus_small (x y : Int) (w : World) (hx : Word x) (hy : Word y) (hc : x + y < 18446744073709551616) :
    Calls Yba.prog 11 #[.agg #[.int .u64 x, .pointer none], .agg #[.int .u64 y, .pointer none]] w fun e w' => e = .returned (.agg #[.int .u64 (x + y), .pointer none]) ∧ Below w.heap.size w w' := by
  obtain ⟨x1, x2⟩ := hx
  obtain ⟨y1, y2⟩ := hy
  have h : ∀ w, (callFunc 12 #[.int .u64 x, .int .u64 y, .int .u64 0]).run Yba.prog w = .ok (.value (.tuple #[.int .u64 (x + y), .int .u64 0])) w := fun w => by
    have h := add64_run0 x y x1 y1 w
    rw [show (x + y) % 18446744073709551616 = x + y by omega, show (x + y) / 18446744073709551616 = 0 by omega] at h
    exact h
  go_enter Yba.func11, Yba.ntmps11
  go_wp2
  refine bodyPost_ret (v := .agg #[.int .u64 (x + y), .pointer none]) (by simp [results, Yba.results11, go_sem]) rfl ⟨rfl, ?_⟩
  exact (((Below.refl _ w).alloc (Nat.le_refl _) _).alloc (by simp) _).alloc (by simp; omega) _

set_option linter.unusedSimpArgs false in
set_option maxHeartbeats 1000000 in
/-- number.plus, large. -/
theorem plus_big (x y : Int) (px py : Option Addr) (X Y : List Int) (w : World) (hx : Word x) (hy : Word y) (hX : NumV w w.heap.size x px X) (hY : NumV w w.heap.size y py Y) (lX : X.length ≤ 2) (lY : Y.length ≤ 2) (wX : ∀ v ∈ X, Word v) (wY : ∀ v ∈ Y, Word v)
    (hne : X ≠ [] → Y ≠ [] → addW X Y ≠ []) (hbig : px = none → py = none → (x + y) / 18446744073709551616 = 1) :
    Calls Yba.prog 11 #[.agg #[.int .u64 x, .pointer px], .agg #[.int .u64 y, .pointer py]] w fun e w' => ∃ gr, e = .returned (.agg #[.int .u64 0, .pointer (some ⟨gr, 0, none⟩)]) ∧ IntR w' w.heap.size gr (addW X Y) ∧ Below w.heap.size w w' := by
  obtain ⟨x1, x2⟩ := hx
  obtain ⟨y1, y2⟩ := hy
  have kx : Hid (∀ w1 gz, Below w.heap.size w w1 → w.heap.size ≤ gz → RowAt w1 gz 68 [.bool false, .slice none 0 0] → Calls Yba.prog 25 #[.agg #[.int .u64 x, .pointer px], .pointer (some ⟨gz, 0, none⟩)] w1 fun e w' => e = .returned (.pointer (some ⟨gz, 0, none⟩)) ∧ IntS w' gz gz X ∧ Below gz w1 w') := fun w1 gz hb hg hr =>
    toBig_any gz gz w.heap.size x px X w1 (Nat.le_refl _) hg lX hr (hX.later hb)
  have ky : Hid (∀ w1 gz, Below w.heap.size w w1 → w.heap.size ≤ gz → RowAt w1 gz 68 [.bool false, .slice none 0 0] → Calls Yba.prog 25 #[.agg #[.int .u64 y, .pointer py], .pointer (some ⟨gz, 0, none⟩)] w1 fun e w' => e = .returned (.pointer (some ⟨gz, 0, none⟩)) ∧ IntS w' gz gz Y ∧ Below gz w1 w') := fun w1 gz hb hg hr =>
    toBig_any gz gz w.heap.size y py Y w1 (Nat.le_refl _) hg lY hr (hY.later hb)
  have ka : Hid (∀ B gz gy By w, IntS w B gz X → IntS w By gy Y → Calls Yba.prog 24 #[.pointer (some ⟨gz, 0, none⟩), .pointer (some ⟨gz, 0, none⟩), .pointer (some ⟨gy, 0, none⟩)] w fun e w' => e = .returned (.pointer (some ⟨gz, 0, none⟩)) ∧ IntR w' B gz (addW X Y) ∧ Below B w w') := fun B gz gy By w h1 h2 =>
    iadd_any B gz gy By X Y w h1 h2 wX wY hne
  obtain ⟨W0, hW0⟩ : ∃ W0, (((w.alloc (.cells #[.int .u64 x, .pointer px] 31)).alloc (.cells #[.int .u64 y, .pointer py] 31)).alloc (.cells #[.int .u64 0, .pointer none] 31)).alloc (.cells #[.bool false, .slice none 0 0] 68) = W0 := ⟨_, rfl⟩
  have b0 : Below w.heap.size w W0 := by rw [← hW0]; exact ((((Below.refl _ w).alloc (Nat.le_refl _) _).alloc (by simp) _).alloc (by simp; omega) _).alloc (by simp; omega) _
  have rz0 : RowAt W0 (w.heap.size + 1 + 1 + 1) 68 [.bool false, .slice none 0 0] := by
    have h := RowAt.new (((w.alloc (.cells #[.int .u64 x, .pointer px] 31)).alloc (.cells #[.int .u64 y, .pointer py] 31)).alloc (.cells #[.int .u64 0, .pointer none] 31)) 68 [.bool false, .slice none 0 0]
    rw [hW0, show (((w.alloc (.cells #[.int .u64 x, .pointer px] 31)).alloc (.cells #[.int .u64 y, .pointer py] 31)).alloc (.cells #[.int .u64 0, .pointer none] 31)).heap.size = w.heap.size + 1 + 1 + 1 by simp] at h
    exact h
  have ry0 : RowAt W0 (w.heap.size + 1) 31 [.int .u64 y, .pointer py] := by
    have h := ((RowAt.new (w.alloc (.cells #[.int .u64 x, .pointer px] 31)) 31 [.int .u64 y, .pointer py]).alloc (.cells #[.int .u64 0, .pointer none] 31)).alloc (.cells #[.bool false, .slice none 0 0] 68)
    rw [hW0, show (w.alloc (.cells #[.int .u64 x, .pointer px] 31)).heap.size = w.heap.size + 1 by simp] at h
    exact h
  have rr0 : RowAt W0 (w.heap.size + 1 + 1) 31 [.int .u64 0, .pointer none] := by
    have h := (RowAt.new ((w.alloc (.cells #[.int .u64 x, .pointer px] 31)).alloc (.cells #[.int .u64 y, .pointer py] 31)) 31 [.int .u64 0, .pointer none]).alloc (.cells #[.bool false, .slice none 0 0] 68)
    rw [hW0, show ((w.alloc (.cells #[.int .u64 x, .pointer px] 31)).alloc (.cells #[.int .u64 y, .pointer py] 31)).heap.size = w.heap.size + 1 + 1 by simp] at h
    exact h
  have B0 := hid b0
  have RZ0 := hid rz0
  have RY0 := hid ry0
  have RR0 := hid rr0
  clear b0 rz0 ry0 rr0 hX hY wX wY hne
  have Y1 : Hid (∀ w1, Below (w.heap.size + 1 + 1 + 1) W0 w1 → w1.cell? ⟨w.heap.size + 1, 0, none⟩ = some (.int .u64 y) ∧ w1.cell? ⟨w.heap.size + 1, 1, none⟩ = some (.pointer py)) := fun w1 hb => by
    have r := RY0.out.below hb (by omega)
    exact ⟨by rw [r.cell]; rfl, by rw [r.cell]; rfl⟩
  have Y2 : Hid (∀ w1, Below (w.heap.size + 1 + 1 + 1) W0 w1 → w1.cell? ⟨w.heap.size + 1 + 1, 0, none⟩ = some (.int .u64 0) ∧ w1.cell? ⟨w.heap.size + 1 + 1, 1, none⟩ = some (.pointer none) ∧ w1.frozen? ⟨w.heap.size + 1 + 1, 0, none⟩ = false ∧ w1.frozen? ⟨w.heap.size + 1 + 1, 1, none⟩ = false ∧ w.heap.size + 1 + 1 < w1.heap.size) := fun w1 hb => by
    have r := RR0.out.below hb (by omega)
    exact ⟨by rw [r.cell]; rfl, by rw [r.cell]; rfl, r.frozen 0, r.frozen 1, r.lt⟩
  rcases px with _ | px
  · rcases py with _ | py
    · have hd := hbig rfl rfl
      obtain ⟨s, hs⟩ : ∃ s, (x + y) % 18446744073709551616 = s := ⟨_, rfl⟩
      have h12 := fun w => add64_run0 x y x1 y1 w
      rw [hs, hd] at h12
      clear hs hd hbig
      go_enter Yba.func11, Yba.ntmps11
      go_wp2_with fail
      refine (kx.out W0 (w.heap.size + 1 + 1 + 1) B0.out (by omega) RZ0.out).mono ?_
      rintro e w1 ⟨rfl, s1, b1⟩
      obtain ⟨c0, c1⟩ := Y1.out w1 b1
      have z1 : w.heap.size + 1 + 1 + 1 < w1.heap.size := s1.lt
      have z1' : w.heap.size + 1 < w1.heap.size := by omega
      have z1'' : w.heap.size + 1 + 1 < w1.heap.size := by omega
      have S1 := hid s1
      have B1 := hid b1
      clear s1 b1
      go_wp2_with fail
      refine (ky.out (w1.alloc (.cells #[.bool false, .slice none 0 0] 68)) w1.heap.size ((B0.out.trans (B1.out.mono (by omega))).trans ((Below.refl _ w1).alloc (by omega) _)) (by omega) (RowAt.new w1 68 [.bool false, .slice none 0 0])).mono ?_
      rintro e w2 ⟨rfl, s2, b2⟩
      have ba : Below w1.heap.size w1 w2 := ((Below.refl _ w1).alloc (Nat.le_refl _) _).trans b2
      have S2 := hid s2
      have S1' := hid (S1.out.later ba)
      have B2 := hid ba
      clear s2 b2 ba
      go_wp2_with fail
      refine (ka.out _ _ _ _ _ S1'.out S2.out).mono ?_
      rintro e w3 ⟨rfl, s3, b3⟩
      have bb : Below (w.heap.size + 1 + 1 + 1) W0 w3 := (B1.out.trans (B2.out.mono (by omega))).trans b3
      obtain ⟨q0, q1, g0, g1, lw⟩ := Y2.out w3 bb
      have bw : Below w.heap.size w w3 := B0.out.trans (bb.mono (by omega))
      have S3 := hid s3
      have BW := hid bw
      clear s3 b3 bb bw
      go_wp2
      refine bodyPost_ret (v := .agg #[.int .u64 0, .pointer (some ⟨w.heap.size + 1 + 1 + 1, 0, none⟩)]) (by simp [results, Yba.results11, go_sem, q0, q1, lw]) rfl ?_
      refine ⟨w.heap.size + 1 + 1 + 1, rfl, ((S3.out.set (show w.heap.size + 1 + 1 < w.heap.size + 1 + 1 + 1 by omega) _).set (show w.heap.size + 1 + 1 < w.heap.size + 1 + 1 + 1 by omega) _).mono (by omega), ?_⟩
      exact (BW.out.setCell (show w.heap.size ≤ w.heap.size + 1 + 1 by omega) _).setCell (show w.heap.size ≤ w.heap.size + 1 + 1 by omega) _
    · clear hbig
      go_enter Yba.func11, Yba.ntmps11
      go_wp2_with fail
      refine (kx.out W0 (w.heap.size + 1 + 1 + 1) B0.out (by omega) RZ0.out).mono ?_
      rintro e w1 ⟨rfl, s1, b1⟩
      obtain ⟨c0, c1⟩ := Y1.out w1 b1
      have z1 : w.heap.size + 1 + 1 + 1 < w1.heap.size := s1.lt
      have z1' : w.heap.size + 1 < w1.heap.size := by omega
      have z1'' : w.heap.size + 1 + 1 < w1.heap.size := by omega
      have S1 := hid s1
      have B1 := hid b1
      clear s1 b1
      go_wp2_with fail
      refine (ky.out (w1.alloc (.cells #[.bool false, .slice none 0 0] 68)) w1.heap.size ((B0.out.trans (B1.out.mono (by omega))).trans ((Below.refl _ w1).alloc (by omega) _)) (by omega) (RowAt.new w1 68 [.bool false, .slice none 0 0])).mono ?_
      rintro e w2 ⟨rfl, s2, b2⟩
      have ba : Below w1.heap.size w1 w2 := ((Below.refl _ w1).alloc (Nat.le_refl _) _).trans b2
      have S2 := hid s2
      have S1' := hid (S1.out.later ba)
      have B2 := hid ba
      clear s2 b2 ba
      go_wp2_with fail
      refine (ka.out _ _ _ _ _ S1'.out S2.out).mono ?_
      rintro e w3 ⟨rfl, s3, b3⟩
      have bb : Below (w.heap.size + 1 + 1 + 1) W0 w3 := (B1.out.trans (B2.out.mono (by omega))).trans b3
      obtain ⟨q0, q1, g0, g1, lw⟩ := Y2.out w3 bb
      have bw : Below w.heap.size w w3 := B0.out.trans (bb.mono (by omega))
      have S3 := hid s3
      have BW := hid bw
      clear s3 b3 bb bw
      go_wp2
      refine bodyPost_ret (v := .agg #[.int .u64 0, .pointer (some ⟨w.heap.size + 1 + 1 + 1, 0, none⟩)]) (by simp [results, Yba.results11, go_sem, q0, q1, lw]) rfl ?_
      refine ⟨w.heap.size + 1 + 1 + 1, rfl, ((S3.out.set (show w.heap.size + 1 + 1 < w.heap.size + 1 + 1 + 1 by omega) _).set (show w.heap.size + 1 + 1 < w.heap.size + 1 + 1 + 1 by omega) _).mono (by omega), ?_⟩
      exact (BW.out.setCell (show w.heap.size ≤ w.heap.size + 1 + 1 by omega) _).setCell (show w.heap.size ≤ w.heap.size + 1 + 1 by omega) _
  · clear hbig
    go_enter Yba.func11, Yba.ntmps11
    go_wp2_with fail
    refine (kx.out W0 (w.heap.size + 1 + 1 + 1) B0.out (by omega) RZ0.out).mono ?_
    rintro e w1 ⟨rfl, s1, b1⟩
    obtain ⟨c0, c1⟩ := Y1.out w1 b1
    have z1 : w.heap.size + 1 + 1 + 1 < w1.heap.size := s1.lt
    have z1' : w.heap.size + 1 < w1.heap.size := by omega
    have z1'' : w.heap.size + 1 + 1 < w1.heap.size := by omega
    have S1 := hid s1
    have B1 := hid b1
    clear s1 b1
    go_wp2_with fail
    refine (ky.out (w1.alloc (.cells #[.bool false, .slice none 0 0] 68)) w1.heap.size ((B0.out.trans (B1.out.mono (by omega))).trans ((Below.refl _ w1).alloc (by omega) _)) (by omega) (RowAt.new w1 68 [.bool false, .slice none 0 0])).mono ?_
    rintro e w2 ⟨rfl, s2, b2⟩
    have ba : Below w1.heap.size w1 w2 := ((Below.refl _ w1).alloc (Nat.le_refl _) _).trans b2
    have S2 := hid s2
    have S1' := hid (S1.out.later ba)
    have B2 := hid ba
    clear s2 b2 ba
    go_wp2_with fail
    refine (ka.out _ _ _ _ _ S1'.out S2.out).mono ?_
    rintro e w3 ⟨rfl, s3, b3⟩
    have bb : Below (w.heap.size + 1 + 1 + 1) W0 w3 := (B1.out.trans (B2.out.mono (by omega))).trans b3
    obtain ⟨q0, q1, g0, g1, lw⟩ := Y2.out w3 bb
    have bw : Below w.heap.size w w3 := B0.out.trans (bb.mono (by omega))
    have S3 := hid s3
    have BW := hid bw
    clear s3 b3 bb bw
    go_wp2
    refine bodyPost_ret (v := .agg #[.int .u64 0, .pointer (some ⟨w.heap.size + 1 + 1 + 1, 0, none⟩)]) (by simp [results, Yba.results11, go_sem, q0, q1, lw]) rfl ?_
    refine ⟨w.heap.size + 1 + 1 + 1, rfl, ((S3.out.set (show w.heap.size + 1 + 1 < w.heap.size + 1 + 1 + 1 by omega) _).set (show w.heap.size + 1 + 1 < w.heap.size + 1 + 1 + 1 by omega) _).mono (by omega), ?_⟩
    exact (BW.out.setCell (show w.heap.size ≤ w.heap.size + 1 + 1 by omega) _).setCell (show w.heap.size ≤ w.heap.size + 1 + 1 by omega) _
end Go.Proofs.Ybulkcwhe
