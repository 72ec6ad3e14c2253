import Derived.Test.YbulkcwheShape
namespace Go.Proofs.Ybulkcwhe
open Go.RowKit

theorem RowAt.ne' {w : World} {g g' : Nat} {e e' : TypeId} {vs vs' : List Value} (h : RowAt w g e vs) (h' : RowAt w g' e' vs') (he : e ≠ e') : g ≠ g' := by
  rintro rfl
  unfold RowAt at h h'
  rw [h] at h'
  simp at h'
  exact he h'.2
theorem Keep.undrew {S : List Nat} {w w' : World} {q : Nat} (h : Keep S (w.drewN q) w') : Keep S w w' := ⟨h.os, h.tape, h.output, h.size, h.block⟩

/-- (*Int).Add(z, z, y). -/
theorem iadd_any (B gz gy By : Nat) (X Y : List Int) (w : World) (hX : IntS w B gz X) (hY : IntS w By gy Y) (wX : ∀ v ∈ X, Word v) (wY : ∀ v ∈ Y, Word v) (hne : X ≠ [] → Y ≠ [] → addW X Y ≠ []) :
    Calls Yba.prog 24 #[.pointer (some ⟨gz, 0, none⟩), .pointer (some ⟨gz, 0, none⟩), .pointer (some ⟨gy, 0, none⟩)] w fun e w' => e = .returned (.pointer (some ⟨gz, 0, none⟩)) ∧ IntR w' B gz (addW X Y) ∧ Below B w w' := by
  obtain ⟨hB, ax, cx, rz, nx⟩ := hX
  obtain ⟨_, ay, cy, ry, ny⟩ := hY
  have lz := rz.lt
  have fin : ∀ {S : List Nat} {w1 w' : World} {v : Value}, Keep S w w1 → gz ∉ S → (∀ k ∈ S, B ≤ k) → w' = (w1.setCell ⟨gz, 1, none⟩ v).setCell ⟨gz, 0, none⟩ (.bool false) → RowAt w' gz 68 [.bool false, v] ∧ Below B w w' := fun {S w1 w' v} k hg hS hw => by
    subst hw
    have r1 := rz.keep k hg
    refine ⟨(r1.set 1 v).set 0 (.bool false), ?_⟩
    exact (((k.below (B := B) hS (by omega)).setCell (by simpa using hB) _).setCell (by simpa using hB) _)
  have oth : ∀ {w1 w' : World} {v : Value} {g : Nat} {vs : List Value}, RowAt w1 g 41 vs → g ≠ gz → w' = (w1.setCell ⟨gz, 1, none⟩ v).setCell ⟨gz, 0, none⟩ (.bool false) → RowAt w' g 41 vs := fun {w1 w' v g vs} r hg hw => by
    subst hw; exact (r.other hg _).other hg _
  match X, Y, nx, ny, rz, ry, wX, wY, hne with
  | [], [], nx, ny, rz, ry, _, _, _ =>
    obtain ⟨rfl, rfl⟩ := nx
    obtain ⟨rfl, rfl⟩ := ny
    have h := iadd_gen gz gy none none none 0 0 0 0 0 0 [] (fun _ => True) w (by simp) rz ry (fun q => (nadd_nil (w.drewN q)).mono fun e w' ⟨he, hw⟩ => ⟨he, trivial, by rw [hw]; exact (Keep.refl [] w).drewN q⟩)
    refine h.mono fun e w' ⟨he, w1, _, k, hw⟩ => ?_
    obtain ⟨h1, h2⟩ := fin k (by simp) (by simp) hw
    exact ⟨he, ⟨hB, none, 0, h1, by omega, by simp [addW], .inl ⟨rfl, rfl, rfl⟩⟩, h2⟩
  | [], [y0], nx, ny, rz, ry, _, _, _ =>
    obtain ⟨rfl, rfl⟩ := nx
    obtain ⟨g, hg, rfl, rfl, hr⟩ := ny
    have h := iadd_gen gz gy none (some ⟨g, 0, none⟩) (some ⟨w.heap.size, 0, none⟩) 0 0 1 1 1 1 [] (fun w' => RowAt w' w.heap.size 41 (wordsV [y0])) w (by simp) rz ry (fun q => (nadd_one g 1 [] y0 (w.drewN q) (hr.drewN q)).mono fun e w' ⟨he, h1, h2⟩ => ⟨he, h1, h2.undrew⟩)
    refine h.mono fun e w' ⟨he, w1, r1, k, hw⟩ => ?_
    obtain ⟨h1, h2⟩ := fin k (by simp) (by simp) hw
    exact ⟨he, ⟨hB, _, 1, h1, by omega, by simp [addW], .inr ⟨by simp [addW], w.heap.size, [], by omega, rfl, oth r1 (by omega) hw⟩⟩, h2⟩
  | [], [y0, y1], nx, ny, rz, ry, _, _, _ =>
    obtain ⟨rfl, rfl⟩ := nx
    obtain ⟨g, r, rest, hg, rfl, hc, hc', hr⟩ := ny
    have h := iadd_gen gz gy none (some ⟨g, 0, none⟩) (some ⟨w.heap.size, 0, none⟩) 0 0 2 cy 2 6 [] (fun w' => RowAt w' w.heap.size 41 (wordsV [y0, y1, 0, 0, 0, 0])) w (by simp) rz ry (fun q => (nadd_two g cy (r :: rest) y0 y1 (w.drewN q) (hr.drewN q)).mono fun e w' ⟨he, h1, h2⟩ => ⟨he, h1, h2.undrew⟩)
    refine h.mono fun e w' ⟨he, w1, r1, k, hw⟩ => ?_
    obtain ⟨h1, h2⟩ := fin k (by simp) (by simp) hw
    exact ⟨he, ⟨hB, _, 6, h1, by omega, by simp [addW], .inr ⟨by simp [addW], w.heap.size, [0, 0, 0, 0], by omega, rfl, oth r1 (by omega) hw⟩⟩, h2⟩
  | [x0], [], nx, ny, rz, ry, _, _, _ =>
    obtain ⟨g, hg, rfl, rfl, hr⟩ := nx
    obtain ⟨rfl, rfl⟩ := ny
    have h := iadd_gen gz gy (some ⟨g, 0, none⟩) none (some ⟨g, 0, none⟩) 1 1 0 0 1 1 [] (fun w' => RowAt w' g 41 (wordsV [x0])) w (by simp) rz ry (fun q => (nadd_self g 1 1 [x0] (w.drewN q) (hr.drewN q) (by simp) (by omega) (by omega) (by omega)).mono fun e w' ⟨he, hw⟩ => ⟨he, by rw [hw]; exact hr.drewN q, by rw [hw]; exact (Keep.refl [] w).drewN q⟩)
    refine h.mono fun e w' ⟨he, w1, r1, k, hw⟩ => ?_
    obtain ⟨h1, h2⟩ := fin k (by simp) (by simp) hw
    exact ⟨he, ⟨hB, _, 1, h1, by omega, by simp [addW], .inr ⟨by simp [addW], g, [], hg, rfl, oth r1 (hr.ne' rz (by decide)) hw⟩⟩, h2⟩
  | [x0, x1], [], nx, ny, rz, ry, _, _, _ =>
    obtain ⟨g, r, rest, hg, rfl, hc, hc', hr⟩ := nx
    obtain ⟨rfl, rfl⟩ := ny
    have h := iadd_gen gz gy (some ⟨g, 0, none⟩) none (some ⟨g, 0, none⟩) 2 cx 0 0 2 cx [] (fun w' => RowAt w' g 41 (wordsV (x0 :: x1 :: r :: rest))) w (by simp) rz ry (fun q => (nadd_self g 2 cx (x0 :: x1 :: r :: rest) (w.drewN q) (hr.drewN q) (by simp) (by omega) (by omega) (by omega)).mono fun e w' ⟨he, hw⟩ => ⟨he, by rw [hw]; exact hr.drewN q, by rw [hw]; exact (Keep.refl [] w).drewN q⟩)
    refine h.mono fun e w' ⟨he, w1, r1, k, hw⟩ => ?_
    obtain ⟨h1, h2⟩ := fin k (by simp) (by simp) hw
    exact ⟨he, ⟨hB, _, cx, h1, by omega, by simp [addW]; omega, .inr ⟨by simp [addW], g, r :: rest, hg, rfl, oth r1 (hr.ne' rz (by decide)) hw⟩⟩, h2⟩
  | [x0], [y0], nx, ny, rz, ry, wX, wY, hne =>
    obtain ⟨g, hg, rfl, rfl, hr⟩ := nx
    obtain ⟨g', hg', rfl, rfl, hr'⟩ := ny
    have hx := wX x0 (by simp)
    have hy := wY y0 (by simp)
    obtain ⟨s, hs⟩ : ∃ s, (x0 + y0) % 18446744073709551616 = s := ⟨_, rfl⟩
    obtain ⟨d, hd⟩ : ∃ s, (x0 + y0) / 18446744073709551616 = s := ⟨_, rfl⟩
    have e0 : nrm [s, d] = addW [x0] [y0] := by rw [← hs, ← hd]; rfl
    have K := fun w0 r0 r0' => nadd_11 g g' 1 x0 y0 [] w0 r0 r0' hx.1 hy.1 (by omega) (by omega)
    rw [hs, hd] at K
    have hN := normLen_append [s, d] [0, 0, 0, 0] 2 (by simp)
    have hL := nrm_length [s, d]
    have hle := normLen_le [s, d] 2
    have h := iadd_gen gz gy (some ⟨g, 0, none⟩) (some ⟨g', 0, none⟩) (some ⟨w.heap.size, 0, none⟩) 1 1 1 1 (normLen [s, d] 2) 6 [] (fun w' => RowAt w' w.heap.size 41 (wordsV ([s, d] ++ [0, 0, 0, 0]))) w (by simp) rz ry
      (fun q => (K (w.drewN q) (hr.drewN q) (hr'.drewN q)).mono fun e w' ⟨he, h1, h2⟩ => ⟨by rw [he]; exact congrArg (fun n => Ending.returned (.slice (some ⟨w.heap.size, 0, none⟩) n 6)) hN, (by have h1' : RowAt w' w.heap.size 41 (wordsV [s, d, 0, 0, 0, 0]) := h1; simpa using h1'), h2.undrew⟩)
    refine h.mono fun e w' ⟨he, w1, r1, k, hw⟩ => ?_
    obtain ⟨h1, h2⟩ := fin k (by simp) (by simp) hw
    have h3 : (addW [x0] [y0]).length = normLen [s, d] 2 := by rw [← e0]; exact hL
    refine ⟨he, ⟨hB, _, 6, by rw [h3]; exact h1, by omega, by rw [h3]; omega, .inr ⟨hne (by simp) (by simp), w.heap.size, _, by omega, rfl, by rw [← e0]; exact oth (row_nrm _ _ r1) (by omega) hw⟩⟩, h2⟩
  | [x0, x1], [y0], nx, ny, rz, ry, wX, wY, hne =>
    obtain ⟨g, r, rest, hg, rfl, hc, hc', hr⟩ := nx
    obtain ⟨g', hg', rfl, rfl, hr'⟩ := ny
    have hx0 := wX x0 (by simp)
    have hx1 := wX x1 (by simp)
    have hy := wY y0 (by simp)
    have hng : gz ≠ g := rz.ne' hr (by decide)
    obtain ⟨s0, es0⟩ : ∃ s, (x0 + y0) % 18446744073709551616 = s := ⟨_, rfl⟩
    obtain ⟨d0, ed0⟩ : ∃ s, (x0 + y0) / 18446744073709551616 = s := ⟨_, rfl⟩
    obtain ⟨s1, es1⟩ : ∃ s, (x1 + d0) % 18446744073709551616 = s := ⟨_, rfl⟩
    obtain ⟨d1, ed1⟩ : ∃ s, (x1 + d0) / 18446744073709551616 = s := ⟨_, rfl⟩
    have e0 : nrm [s0, s1, d1] = addW [x0, x1] [y0] := by rw [← es1, ← ed1, ← es0, ← ed0]; rfl
    have K := fun w0 r0 r0' => nadd_21 g cx g' 1 x0 x1 r y0 rest [] w0 r0 r0' hx0.1 hx0.2 hx1.1 hx1.2 hy.1 hy.2 (by omega) (by omega) (by omega) (by omega) s0 d0 s1 d1 es0 ed0 es1 ed1
    have hN := normLen_append [s0, s1, d1] rest 3 (by simp)
    have hL := nrm_length [s0, s1, d1]
    have hle := normLen_le [s0, s1, d1] 3
    have h := iadd_gen gz gy (some ⟨g, 0, none⟩) (some ⟨g', 0, none⟩) (some ⟨g, 0, none⟩) 2 cx 1 1 (normLen [s0, s1, d1] 3) cx [g] (fun w' => RowAt w' g 41 (wordsV ([s0, s1, d1] ++ rest))) w (by simp [hng]) rz ry
      (fun q => (K (w.drewN q) (hr.drewN q) (hr'.drewN q)).mono fun e w' ⟨he, h1, h2⟩ => ⟨by rw [he]; exact congrArg (fun n => Ending.returned (.slice (some ⟨g, 0, none⟩) n cx)) hN, h1, h2.undrew⟩)
    refine h.mono fun e w' ⟨he, w1, r1, k, hw⟩ => ?_
    obtain ⟨h1, h2⟩ := fin k (by simp [hng]) (by simp [hg]) hw
    have h3 : (addW [x0, x1] [y0]).length = normLen [s0, s1, d1] 3 := by rw [← e0]; exact hL
    refine ⟨he, ⟨hB, _, cx, by rw [h3]; exact h1, by omega, by rw [h3]; omega, .inr ⟨hne (by simp) (by simp), g, _, hg, rfl, by rw [← e0]; exact oth (row_nrm _ _ r1) (hr.ne' rz (by decide)) hw⟩⟩, h2⟩
  | [x0], [y0, y1], nx, ny, rz, ry, wX, wY, hne =>
    obtain ⟨g, hg, rfl, rfl, hr⟩ := nx
    obtain ⟨g', r, rest, hg', rfl, hc, hc', hr'⟩ := ny
    have hx := wX x0 (by simp)
    have hy0 := wY y0 (by simp)
    have hy1 := wY y1 (by simp)
    obtain ⟨s0, es0⟩ : ∃ s, (x0 + y0) % 18446744073709551616 = s := ⟨_, rfl⟩
    obtain ⟨d0, ed0⟩ : ∃ s, (x0 + y0) / 18446744073709551616 = s := ⟨_, rfl⟩
    obtain ⟨s1, es1⟩ : ∃ s, (y1 + d0) % 18446744073709551616 = s := ⟨_, rfl⟩
    obtain ⟨d1, ed1⟩ : ∃ s, (y1 + d0) / 18446744073709551616 = s := ⟨_, rfl⟩
    have e0 : nrm [s0, s1, d1] = addW [x0] [y0, y1] := by rw [← es1, ← ed1, ← es0, ← ed0]; rfl
    have K := fun w0 r0 r0' => nadd_12 g g' cy y0 y1 x0 (r :: rest) w0 r0 r0' hy0.1 hy0.2 hy1.1 hy1.2 hx.1 hx.2 (by omega) (by omega) s0 d0 s1 d1 (by rw [Int.add_comm]; exact es0) (by rw [Int.add_comm]; exact ed0) es1 ed1
    have hN := normLen_append [s0, s1, d1] [0, 0, 0, 0] 3 (by simp)
    have hL := nrm_length [s0, s1, d1]
    have hle := normLen_le [s0, s1, d1] 3
    have h := iadd_gen gz gy (some ⟨g, 0, none⟩) (some ⟨g', 0, none⟩) (some ⟨w.heap.size, 0, none⟩) 1 1 2 cy (normLen [s0, s1, d1] 3) 7 [] (fun w' => RowAt w' w.heap.size 41 (wordsV ([s0, s1, d1] ++ [0, 0, 0, 0]))) w (by simp) rz ry
      (fun q => (K (w.drewN q) (hr.drewN q) (hr'.drewN q)).mono fun e w' ⟨he, h1, h2⟩ => ⟨by rw [he]; exact congrArg (fun n => Ending.returned (.slice (some ⟨w.heap.size, 0, none⟩) n 7)) hN, (by have h1' : RowAt w' w.heap.size 41 (wordsV [s0, s1, d1, 0, 0, 0, 0]) := h1; simpa using h1'), h2.undrew⟩)
    refine h.mono fun e w' ⟨he, w1, r1, k, hw⟩ => ?_
    obtain ⟨h1, h2⟩ := fin k (by simp) (by simp) hw
    have h3 : (addW [x0] [y0, y1]).length = normLen [s0, s1, d1] 3 := by rw [← e0]; exact hL
    refine ⟨he, ⟨hB, _, 7, by rw [h3]; exact h1, by omega, by rw [h3]; omega, .inr ⟨hne (by simp) (by simp), w.heap.size, _, by omega, rfl, by rw [← e0]; exact oth (row_nrm _ _ r1) (by omega) hw⟩⟩, h2⟩
  | [x0, x1], [y0, y1], nx, ny, rz, ry, wX, wY, hne =>
    obtain ⟨g, r, rest, hg, rfl, hc, hc', hr⟩ := nx
    obtain ⟨g', r', rest', hg', rfl, hcc, hcc', hr'⟩ := ny
    have hx0 := wX x0 (by simp)
    have hx1 := wX x1 (by simp)
    have hy0 := wY y0 (by simp)
    have hy1 := wY y1 (by simp)
    have hng : gz ≠ g := rz.ne' hr (by decide)
    obtain ⟨s0, es0⟩ : ∃ s, (x0 + y0) % 18446744073709551616 = s := ⟨_, rfl⟩
    obtain ⟨d0, ed0⟩ : ∃ s, (x0 + y0) / 18446744073709551616 = s := ⟨_, rfl⟩
    obtain ⟨s1, es1⟩ : ∃ s, (x1 + y1 + d0) % 18446744073709551616 = s := ⟨_, rfl⟩
    obtain ⟨d1, ed1⟩ : ∃ s, (x1 + y1 + d0) / 18446744073709551616 = s := ⟨_, rfl⟩
    have e0 : nrm [s0, s1, d1] = addW [x0, x1] [y0, y1] := by rw [← es1, ← ed1, ← es0, ← ed0]; rfl
    have K := fun w0 r0 r0' => nadd_22 g cx g' cy x0 x1 r y0 y1 rest (r' :: rest') w0 r0 r0' hx0.1 hx0.2 hx1.1 hy0.1 hy0.2 hy1.1 (by omega) (by omega) (by omega) (by omega) s0 d0 s1 d1 es0 ed0 es1 ed1
    have hN := normLen_append [s0, s1, d1] rest 3 (by simp)
    have hL := nrm_length [s0, s1, d1]
    have hle := normLen_le [s0, s1, d1] 3
    have h := iadd_gen gz gy (some ⟨g, 0, none⟩) (some ⟨g', 0, none⟩) (some ⟨g, 0, none⟩) 2 cx 2 cy (normLen [s0, s1, d1] 3) cx [g] (fun w' => RowAt w' g 41 (wordsV ([s0, s1, d1] ++ rest))) w (by simp [hng]) rz ry
      (fun q => (K (w.drewN q) (hr.drewN q) (hr'.drewN q)).mono fun e w' ⟨he, h1, h2⟩ => ⟨by rw [he]; exact congrArg (fun n => Ending.returned (.slice (some ⟨g, 0, none⟩) n cx)) hN, h1, h2.undrew⟩)
    refine h.mono fun e w' ⟨he, w1, r1, k, hw⟩ => ?_
    obtain ⟨h1, h2⟩ := fin k (by simp [hng]) (by simp [hg]) hw
    have h3 : (addW [x0, x1] [y0, y1]).length = normLen [s0, s1, d1] 3 := by rw [← e0]; exact hL
    refine ⟨he, ⟨hB, _, cx, by rw [h3]; exact h1, by omega, by rw [h3]; omega, .inr ⟨hne (by simp) (by simp), g, _, hg, rfl, by rw [← e0]; exact oth (row_nrm _ _ r1) (hr.ne' rz (by decide)) hw⟩⟩, h2⟩
end Go.Proofs.Ybulkcwhe
