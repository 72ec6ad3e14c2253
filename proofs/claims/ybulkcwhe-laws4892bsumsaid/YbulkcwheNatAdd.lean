import Derived.Test.YbulkcwheLsh
namespace Go.Proofs.Ybulkcwhe
open Go.RowKit
set_option linter.unusedVariables false

set_option maxHeartbeats 400000 in
/-- nat.add of nil and nil. -/
theorem nadd_nil (w : World) : Calls Yba.prog 36 #[.slice none 0 0, .slice none 0 0, .slice none 0 0] w fun e w' => e = .returned (.slice none 0 0) ∧ w' = w := by
  go_enter Yba.func36, Yba.ntmps36
  go_wp2
  go_ret
  exact ⟨rfl, rfl⟩

set_option maxHeartbeats 400000 in
/-- nat.add of a nat and nil, in place. -/
theorem nadd_self (g n c : Nat) (xs : List Int) (w : World) (hr : RowAt w g 41 (wordsV xs)) (hn : n ≤ xs.length) (hn0 : 0 < n) (hc : n ≤ c) (hc' : c ≤ 7) :
    Calls Yba.prog 36 #[.slice (some ⟨g, 0, none⟩) n c, .slice (some ⟨g, 0, none⟩) n c, .slice none 0 0] w fun e w' => e = .returned (.slice (some ⟨g, 0, none⟩) n c) ∧ w' = w := by
  have K := hid (nset_self g n c xs w hr hn hc hc')
  have z1 : ¬ (n : Int) < 0 := by omega
  have z2 : ((n : Int) == 0) = false := by simp; omega
  clear hr
  go_enter Yba.func36, Yba.ntmps36
  go_wp2_with (go_at_call 43; refine K.out.mono ?_; rintro e w' ⟨rfl, hw⟩; subst hw)
  go_ret
  exact ⟨rfl, rfl⟩

set_option maxHeartbeats 400000 in
/-- nat.add into nil, of a nat of one word and nil. -/
theorem nadd_one' (gx cx : Nat) (xs : List Int) (x0 : Int) (w : World) (hr : RowAt w gx 41 (wordsV (x0 :: xs))) :
    Calls Yba.prog 36 #[.slice none 0 0, .slice (some ⟨gx, 0, none⟩) 1 cx, .slice none 0 0] w fun e w' => e = .returned (.slice (some ⟨w.heap.size, 0, none⟩) 1 1) ∧ RowAt w' w.heap.size 41 (wordsV [x0]) ∧ Keep [] w w' := by
  have K := hid (nset_one gx cx xs x0 w hr)
  clear hr
  go_enter Yba.func36, Yba.ntmps36
  go_wp2_with (go_at_call 43; refine K.out.mono ?_; rintro e w' ⟨rfl, hw1, hw2⟩)
  go_ret
  exact ⟨rfl, hw1, hw2⟩
set_option maxHeartbeats 400000 in
theorem nadd_one (gx cx : Nat) (xs : List Int) (x0 : Int) (w : World) (hr : RowAt w gx 41 (wordsV (x0 :: xs))) :
    Calls Yba.prog 36 #[.slice none 0 0, .slice none 0 0, .slice (some ⟨gx, 0, none⟩) 1 cx] w fun e w' => e = .returned (.slice (some ⟨w.heap.size, 0, none⟩) 1 1) ∧ RowAt w' w.heap.size 41 (wordsV [x0]) ∧ Keep [] w w' := by
  have K := hid (nadd_one' gx cx xs x0 w hr)
  clear hr
  go_enter Yba.func36, Yba.ntmps36
  go_wp2_with (go_at_call 36; refine K.out.mono ?_; rintro e w' ⟨rfl, hw1, hw2⟩)
  go_ret
  exact ⟨rfl, hw1, hw2⟩
set_option maxHeartbeats 400000 in
/-- nat.add into nil, of a nat of two words and nil. -/
theorem nadd_two' (gx cx : Nat) (xs : List Int) (x0 x1 : Int) (w : World) (hr : RowAt w gx 41 (wordsV (x0 :: x1 :: xs))) :
    Calls Yba.prog 36 #[.slice none 0 0, .slice (some ⟨gx, 0, none⟩) 2 cx, .slice none 0 0] w fun e w' => e = .returned (.slice (some ⟨w.heap.size, 0, none⟩) 2 6) ∧ RowAt w' w.heap.size 41 (wordsV [x0, x1, 0, 0, 0, 0]) ∧ Keep [] w w' := by
  have K := hid (nset_two gx cx xs x0 x1 w hr)
  clear hr
  go_enter Yba.func36, Yba.ntmps36
  go_wp2_with (go_at_call 43; refine K.out.mono ?_; rintro e w' ⟨rfl, hw1, hw2⟩)
  go_ret
  exact ⟨rfl, hw1, hw2⟩
set_option maxHeartbeats 400000 in
theorem nadd_two (gx cx : Nat) (xs : List Int) (x0 x1 : Int) (w : World) (hr : RowAt w gx 41 (wordsV (x0 :: x1 :: xs))) :
    Calls Yba.prog 36 #[.slice none 0 0, .slice none 0 0, .slice (some ⟨gx, 0, none⟩) 2 cx] w fun e w' => e = .returned (.slice (some ⟨w.heap.size, 0, none⟩) 2 6) ∧ RowAt w' w.heap.size 41 (wordsV [x0, x1, 0, 0, 0, 0]) ∧ Keep [] w w' := by
  have K := hid (nadd_two' gx cx xs x0 x1 w hr)
  clear hr
  go_enter Yba.func36, Yba.ntmps36
  go_wp2_with (go_at_call 36; refine K.out.mono ?_; rintro e w' ⟨rfl, hw1, hw2⟩)
  go_ret
  exact ⟨rfl, hw1, hw2⟩

set_option maxHeartbeats 1000000 in
/-- nat.add of two nats of one word, into a new row. -/
theorem nadd_11 (g gy cy : Nat) (x0 y0 : Int) (ys : List Int) (w : World) (hr : RowAt w g 41 (wordsV [x0])) (hry : RowAt w gy 41 (wordsV (y0 :: ys))) (x1 : 0 ≤ x0) (y1 : 0 ≤ y0) (hcy : 1 ≤ cy) (hcy' : cy ≤ 7) :
    Calls Yba.prog 36 #[.slice (some ⟨g, 0, none⟩) 1 1, .slice (some ⟨g, 0, none⟩) 1 1, .slice (some ⟨gy, 0, none⟩) 1 cy] w fun e w' =>
      e = .returned (.slice (some ⟨w.heap.size, 0, none⟩) (normLen [(x0 + y0) % 18446744073709551616, (x0 + y0) / 18446744073709551616, 0, 0, 0, 0] 2) 6) ∧ RowAt w' w.heap.size 41 (wordsV [(x0 + y0) % 18446744073709551616, (x0 + y0) / 18446744073709551616, 0, 0, 0, 0]) ∧ Keep [] w w' := by
  obtain ⟨Z, hZ⟩ : ∃ Z, wordsV (List.replicate (2 + 4) 0) = Z := ⟨_, rfl⟩
  have K : Hid (∀ w, Calls Yba.prog 40 #[.slice (some ⟨g, 0, none⟩) 1 1, .int .i64 2] w fun e w' => e = .returned (.slice (some ⟨w.heap.size, 0, none⟩) 2 6) ∧ w' = w.alloc (.cells Z.toArray 41)) := fun w => by
    have := nmake_new (some ⟨g, 0, none⟩) 1 1 2 (by omega) (by omega) (by omega) w
    rw [hZ] at this
    exact this
  have rn : RowAt (w.alloc (.cells Z.toArray 41)) w.heap.size 41 (wordsV [0, 0, 0, 0, 0, 0]) := by rw [← hZ]; exact RowAt.new w 41 _
  obtain ⟨W, hW⟩ : ∃ W, w.alloc (.cells Z.toArray 41) = W := ⟨_, rfl⟩
  have kw : Keep [] w W := by rw [← hW]; exact (Keep.refl [] w).alloc _
  have rg := hr.alloc (.cells Z.toArray 41)
  have ry := hry.alloc (.cells Z.toArray 41)
  rw [hW] at rn rg ry
  obtain ⟨s, hs⟩ : ∃ s, (x0 + y0) % 18446744073709551616 = s := ⟨_, rfl⟩
  obtain ⟨d, hd⟩ : ∃ d, (x0 + y0) / 18446744073709551616 = d := ⟨_, rfl⟩
  have KV : Hid (Calls Yba.prog 26 #[.slice (some ⟨w.heap.size, 0, none⟩) 1 6, .slice (some ⟨g, 0, none⟩) 1 1, .slice (some ⟨gy, 0, none⟩) 1 cy] W.drew fun e w' => e = .returned (.int .u64 d) ∧ RowAt w' w.heap.size 41 (wordsV [s, 0, 0, 0, 0, 0]) ∧ Keep [] w w') := by
    have h := addVV1 w.heap.size 6 g 1 gy cy x0 y0 0 W.drew (by rw [rg.drew.cell]; rfl) (by rw [ry.drew.cell]; rfl) (by rw [rn.drew.cell]; rfl) (rn.drew.frozen 0) x1 y1
    rw [hs, hd] at h
    refine h.mono fun e w' ⟨he, q, hw⟩ => ⟨he, ?_, ?_⟩
    · rw [hw]; exact (rn.drew.drewN q).set 0 (.int .u64 s)
    · rw [hw]; exact (((kw.trans (Keep.of_below (below_drewN (Below.refl _ W) 1) [])).drewN q).setCell (.inr (Nat.le_refl _)) _)
  have KN : Hid (∀ w', RowAt w' w.heap.size 41 (wordsV [s, d, 0, 0, 0, 0]) → Calls Yba.prog 45 #[.slice (some ⟨w.heap.size, 0, none⟩) 2 6] w' fun e w'' => e = .returned (.slice (some ⟨w.heap.size, 0, none⟩) (normLen [s, d, 0, 0, 0, 0] 2) 6) ∧ w'' = w') := fun w' h =>
    norm_any w.heap.size 2 6 [s, d, 0, 0, 0, 0] w' h (by simp) (by omega) (by omega) (by omega)
  have htw := addVV_twin
  rw [hs, hd]
  obtain ⟨N, hN⟩ : ∃ N, normLen [s, d, 0, 0, 0, 0] 2 = N := ⟨_, rfl⟩
  rw [hN] at KN ⊢
  clear hs hd hN rn rg ry kw hr hry hZ
  go_enter Yba.func36, Yba.ntmps36
  go_wp2_with (go_at_call 40; refine (K.out _).mono ?_; rintro e w' ⟨rfl, hw⟩; subst hw)
  go_region_with (go_at_call 26; refine KV.out.mono ?_; rintro e w1 ⟨rfl, r1, k1⟩; have c1 : w1.cell? ⟨w.heap.size, 1, none⟩ = some (.int .u64 0) := (by rw [r1.cell]; rfl); have f1 : w1.frozen? ⟨w.heap.size, 1, none⟩ = false := r1.frozen 1; have R1 := hid r1; have K1 := hid k1; clear r1 k1)
  go_wp2_with (go_at_call 45; refine (KN.out _ (R1.out.set 1 (.int .u64 d))).mono ?_; rintro e w' ⟨rfl, hw⟩; subst hw)
  go_ret
  exact ⟨rfl, R1.out.set 1 (.int .u64 d), K1.out.setCell (.inr (Nat.le_refl _)) _⟩

theorem Keep.drew {S : List Nat} {a w : World} (h : Keep S a w) : Keep S a w.drew := ⟨h.os, h.tape, h.output, h.size, h.block⟩

set_option maxHeartbeats 1000000 in
/-- nat.add of a nat of two words and one of one word, in place. -/
theorem nadd_21 (g c gy cy : Nat) (x0 x1 r2 y0 : Int) (rest ys : List Int) (w : World) (hr : RowAt w g 41 (wordsV (x0 :: x1 :: r2 :: rest))) (hry : RowAt w gy 41 (wordsV (y0 :: ys)))
    (px0 : 0 ≤ x0) (qx0 : x0 < 18446744073709551616) (px1 : 0 ≤ x1) (qx1 : x1 < 18446744073709551616) (py0 : 0 ≤ y0) (qy0 : y0 < 18446744073709551616) (hc : 3 ≤ c) (hc' : c ≤ 7) (hcy : 1 ≤ cy) (hcy' : cy ≤ 7)
    (s0 d0 s1 d1 : Int) (es0 : (x0 + y0) % 18446744073709551616 = s0) (ed0 : (x0 + y0) / 18446744073709551616 = d0) (es1 : (x1 + d0) % 18446744073709551616 = s1) (ed1 : (x1 + d0) / 18446744073709551616 = d1) :
    Calls Yba.prog 36 #[.slice (some ⟨g, 0, none⟩) 2 c, .slice (some ⟨g, 0, none⟩) 2 c, .slice (some ⟨gy, 0, none⟩) 1 cy] w fun e w' =>
      e = .returned (.slice (some ⟨g, 0, none⟩) (normLen (s0 :: s1 :: d1 :: rest) 3) c) ∧ RowAt w' g 41 (wordsV (s0 :: s1 :: d1 :: rest)) ∧ Keep [g] w w' := by
  have hd0 : 0 ≤ d0 ∧ d0 ≤ 1 := by omega
  have K := hid (fun w => nmake_fit (some ⟨g, 0, none⟩) 2 c 3 hc hc' w)
  have KV : Hid (Calls Yba.prog 26 #[.slice (some ⟨g, 0, none⟩) 1 c, .slice (some ⟨g, 0, none⟩) 1 c, .slice (some ⟨gy, 0, none⟩) 1 cy] w.drew fun e w' => e = .returned (.int .u64 d0) ∧ RowAt w' g 41 (wordsV (s0 :: x1 :: r2 :: rest)) ∧ Keep [g] w w') := by
    have h := addVV1 g c g c gy cy x0 y0 x0 w.drew (by rw [hr.drew.cell]; rfl) (by rw [hry.drew.cell]; rfl) (by rw [hr.drew.cell]; rfl) (hr.drew.frozen 0) px0 py0
    rw [es0, ed0] at h
    refine h.mono fun e w' ⟨he, q, hw⟩ => ⟨he, ?_, ?_⟩
    · rw [hw]; exact (hr.drew.drewN q).set 0 (.int .u64 s0)
    · rw [hw]; exact (((Keep.refl [g] w).drew.drewN q).setCell (.inl (by simp)) _)
  have KW : Hid (∀ w1, RowAt w1 g 41 (wordsV (s0 :: x1 :: r2 :: rest)) → Keep [g] w w1 → Calls Yba.prog 47 #[.slice (some ⟨g, 1, none⟩) 1 (c - 1), .slice (some ⟨g, 1, none⟩) 1 (c - 1), .int .u64 d0] w1.drew fun e w' => e = .returned (.int .u64 d1) ∧ RowAt w' g 41 (wordsV (s0 :: s1 :: r2 :: rest)) ∧ Keep [g] w w') := fun w1 r1 k1 => by
    have h := addVW1_same g 1 (c - 1) (c - 1) x1 d0 w1.drew (by rw [r1.drew.cell]; rfl) (r1.drew.frozen 1) px1 qx1 hd0.1 hd0.2
    rw [es1, ed1] at h
    refine h.mono fun e w' ⟨he, q, hw⟩ => ⟨he, ?_, ?_⟩
    · rw [hw]; exact (r1.drew.drewN q).set 1 (.int .u64 s1)
    · rw [hw]; exact ((k1.drew.drewN q).setCell (.inl (by simp)) _)
  have KN : Hid (∀ w', RowAt w' g 41 (wordsV (s0 :: s1 :: d1 :: rest)) → Calls Yba.prog 45 #[.slice (some ⟨g, 0, none⟩) 3 c] w' fun e w'' => e = .returned (.slice (some ⟨g, 0, none⟩) (normLen (s0 :: s1 :: d1 :: rest) 3) c) ∧ w'' = w') := fun w' h =>
    norm_any g 3 c (s0 :: s1 :: d1 :: rest) w' h (by simp) (by omega) hc hc'
  have htw := addVV_twin
  have i1 : (1 : Int) ≤ (c : Int) := by omega
  have i2 : (1 : Int) ≤ (cy : Int) := by omega
  have i3 : (2 : Int) ≤ (c : Int) := by omega
  have i4 : ¬ c = 1 := by omega
  obtain ⟨N, hN⟩ : ∃ N, normLen (s0 :: s1 :: d1 :: rest) 3 = N := ⟨_, rfl⟩
  rw [hN] at KN ⊢
  clear es0 ed0 es1 ed1 hN hr hry hd0
  go_enter Yba.func36, Yba.ntmps36
  go_wp2_with (go_at_call 40; refine (K.out _).mono ?_; rintro e w' ⟨rfl, hw⟩; subst hw)
  go_region_with (go_at_call 26; refine KV.out.mono ?_; rintro e w1 ⟨rfl, r1, k1⟩; have R1 := hid r1; have K1 := hid k1; clear r1 k1)
  go_wp2
  go_region_with (go_at_call 47; refine (KW.out _ R1.out K1.out).mono ?_; rintro e w2 ⟨rfl, r2', k2⟩; have c2 : w2.cell? ⟨g, 2, none⟩ = some (.int .u64 r2) := (by rw [r2'.cell]; rfl); have f2 : w2.frozen? ⟨g, 2, none⟩ = false := r2'.frozen 2; have R2 := hid r2'; have K2 := hid k2; clear r2' k2)
  go_wp2_with (go_at_call 45; refine (KN.out _ (R2.out.set 2 (.int .u64 d1))).mono ?_; rintro e w' ⟨rfl, hw⟩; subst hw)
  go_ret
  exact ⟨rfl, R2.out.set 2 (.int .u64 d1), K2.out.setCell (.inl (by simp)) _⟩

set_option maxHeartbeats 1000000 in
/-- nat.add of two nats of two words, in place. -/
theorem nadd_22 (g c gy cy : Nat) (x0 x1 r2 y0 y1 : Int) (rest ys : List Int) (w : World) (hr : RowAt w g 41 (wordsV (x0 :: x1 :: r2 :: rest))) (hry : RowAt w gy 41 (wordsV (y0 :: y1 :: ys)))
    (px0 : 0 ≤ x0) (qx0 : x0 < 18446744073709551616) (px1 : 0 ≤ x1) (py0 : 0 ≤ y0) (qy0 : y0 < 18446744073709551616) (py1 : 0 ≤ y1) (hc : 3 ≤ c) (hc' : c ≤ 7) (hcy : 2 ≤ cy) (hcy' : cy ≤ 7)
    (s0 d0 s1 d1 : Int) (es0 : (x0 + y0) % 18446744073709551616 = s0) (ed0 : (x0 + y0) / 18446744073709551616 = d0) (es1 : (x1 + y1 + d0) % 18446744073709551616 = s1) (ed1 : (x1 + y1 + d0) / 18446744073709551616 = d1) :
    Calls Yba.prog 36 #[.slice (some ⟨g, 0, none⟩) 2 c, .slice (some ⟨g, 0, none⟩) 2 c, .slice (some ⟨gy, 0, none⟩) 2 cy] w fun e w' =>
      e = .returned (.slice (some ⟨g, 0, none⟩) (normLen (s0 :: s1 :: d1 :: rest) 3) c) ∧ RowAt w' g 41 (wordsV (s0 :: s1 :: d1 :: rest)) ∧ Keep [g] w w' := by
  have K := hid (fun w => nmake_fit (some ⟨g, 0, none⟩) 2 c 3 hc hc' w)
  have KV : Hid (Calls Yba.prog 26 #[.slice (some ⟨g, 0, none⟩) 2 c, .slice (some ⟨g, 0, none⟩) 2 c, .slice (some ⟨gy, 0, none⟩) 2 cy] w.drew fun e w' => e = .returned (.int .u64 d1) ∧ RowAt w' g 41 (wordsV (s0 :: s1 :: r2 :: rest)) ∧ Keep [g] w w') := by
    have h := addVV2 g c g c gy cy x0 y0 x0 x1 y1 x1 w.drew (by rw [hr.drew.cell]; rfl) (by rw [hry.drew.cell]; rfl) (by rw [hr.drew.cell]; rfl) (hr.drew.frozen 0) (by rw [hr.drew.cell]; rfl) (by rw [hry.drew.cell]; rfl) (by rw [hr.drew.cell]; rfl) (hr.drew.frozen 1) px0 py0 px1 py1 qx0 qy0
    rw [es0, ed0, es1, ed1] at h
    refine h.mono fun e w' ⟨he, q, hw⟩ => ⟨he, ?_, ?_⟩
    · rw [hw]; exact ((hr.drew.drewN q).set 0 (.int .u64 s0)).set 1 (.int .u64 s1)
    · rw [hw]; exact ((((Keep.refl [g] w).drew.drewN q).setCell (.inl (by simp)) _).setCell (.inl (by simp)) _)
  have KN : Hid (∀ w', RowAt w' g 41 (wordsV (s0 :: s1 :: d1 :: rest)) → Calls Yba.prog 45 #[.slice (some ⟨g, 0, none⟩) 3 c] w' fun e w'' => e = .returned (.slice (some ⟨g, 0, none⟩) (normLen (s0 :: s1 :: d1 :: rest) 3) c) ∧ w'' = w') := fun w' h =>
    norm_any g 3 c (s0 :: s1 :: d1 :: rest) w' h (by simp) (by omega) hc hc'
  have htw := addVV_twin
  have i1 : (2 : Int) ≤ (c : Int) := by omega
  have i2 : (2 : Int) ≤ (cy : Int) := by omega
  obtain ⟨N, hN⟩ : ∃ N, normLen (s0 :: s1 :: d1 :: rest) 3 = N := ⟨_, rfl⟩
  rw [hN] at KN ⊢
  clear es0 ed0 es1 ed1 hN hr hry
  go_enter Yba.func36, Yba.ntmps36
  go_wp2_with (go_at_call 40; refine (K.out _).mono ?_; rintro e w' ⟨rfl, hw⟩; subst hw)
  go_region_with (go_at_call 26; refine KV.out.mono ?_; rintro e w2 ⟨rfl, r2', k2⟩; have c2 : w2.cell? ⟨g, 2, none⟩ = some (.int .u64 r2) := (by rw [r2'.cell]; rfl); have f2 : w2.frozen? ⟨g, 2, none⟩ = false := r2'.frozen 2; have R2 := hid r2'; have K2 := hid k2; clear r2' k2)
  go_wp2_with (go_at_call 45; refine (KN.out _ (R2.out.set 2 (.int .u64 d1))).mono ?_; rintro e w' ⟨rfl, hw⟩; subst hw)
  go_ret
  exact ⟨rfl, R2.out.set 2 (.int .u64 d1), K2.out.setCell (.inl (by simp)) _⟩

set_option maxHeartbeats 1000000 in
/-- nat.add into a nat with no room, of one of two words and one of one word. -/
theorem nadd_12' (g gx cx : Nat) (x0 x1 y0 : Int) (xs : List Int) (w : World) (hr : RowAt w g 41 (wordsV [y0])) (hrx : RowAt w gx 41 (wordsV (x0 :: x1 :: xs)))
    (px0 : 0 ≤ x0) (qx0 : x0 < 18446744073709551616) (px1 : 0 ≤ x1) (qx1 : x1 < 18446744073709551616) (py0 : 0 ≤ y0) (qy0 : y0 < 18446744073709551616) (hcx : 3 ≤ cx) (hcx' : cx ≤ 7)
    (s0 d0 s1 d1 : Int) (es0 : (x0 + y0) % 18446744073709551616 = s0) (ed0 : (x0 + y0) / 18446744073709551616 = d0) (es1 : (x1 + d0) % 18446744073709551616 = s1) (ed1 : (x1 + d0) / 18446744073709551616 = d1) :
    Calls Yba.prog 36 #[.slice (some ⟨g, 0, none⟩) 1 1, .slice (some ⟨gx, 0, none⟩) 2 cx, .slice (some ⟨g, 0, none⟩) 1 1] w fun e w' =>
      e = .returned (.slice (some ⟨w.heap.size, 0, none⟩) (normLen [s0, s1, d1, 0, 0, 0, 0] 3) 7) ∧ RowAt w' w.heap.size 41 (wordsV [s0, s1, d1, 0, 0, 0, 0]) ∧ Keep [] w w' := by
  have hd0 : 0 ≤ d0 ∧ d0 ≤ 1 := by omega
  obtain ⟨Z, hZ⟩ : ∃ Z, wordsV (List.replicate (3 + 4) 0) = Z := ⟨_, rfl⟩
  have K : Hid (∀ w, Calls Yba.prog 40 #[.slice (some ⟨g, 0, none⟩) 1 1, .int .i64 3] w fun e w' => e = .returned (.slice (some ⟨w.heap.size, 0, none⟩) 3 7) ∧ w' = w.alloc (.cells Z.toArray 41)) := fun w => by
    have := nmake_new (some ⟨g, 0, none⟩) 1 1 3 (by omega) (by omega) (by omega) w
    rw [hZ] at this
    exact this
  have rn : RowAt (w.alloc (.cells Z.toArray 41)) w.heap.size 41 (wordsV [0, 0, 0, 0, 0, 0, 0]) := by rw [← hZ]; exact RowAt.new w 41 _
  obtain ⟨W, hW⟩ : ∃ W, w.alloc (.cells Z.toArray 41) = W := ⟨_, rfl⟩
  have kw : Keep [] w W := by rw [← hW]; exact (Keep.refl [] w).alloc _
  have rg := hr.alloc (.cells Z.toArray 41)
  have rx := hrx.alloc (.cells Z.toArray 41)
  have lx := hrx.lt
  rw [hW] at rn rg rx
  have KV : Hid (Calls Yba.prog 26 #[.slice (some ⟨w.heap.size, 0, none⟩) 1 7, .slice (some ⟨gx, 0, none⟩) 1 cx, .slice (some ⟨g, 0, none⟩) 1 1] W.drew fun e w' => e = .returned (.int .u64 d0) ∧ RowAt w' w.heap.size 41 (wordsV [s0, 0, 0, 0, 0, 0, 0]) ∧ RowAt w' gx 41 (wordsV (x0 :: x1 :: xs)) ∧ Keep [] w w') := by
    have h := addVV1 w.heap.size 7 gx cx g 1 x0 y0 0 W.drew (by rw [rx.drew.cell]; rfl) (by rw [rg.drew.cell]; rfl) (by rw [rn.drew.cell]; rfl) (rn.drew.frozen 0) px0 py0
    rw [es0, ed0] at h
    refine h.mono fun e w' ⟨he, q, hw⟩ => ⟨he, ?_, ?_, ?_⟩
    · rw [hw]; exact (rn.drew.drewN q).set 0 (.int .u64 s0)
    · rw [hw]; exact (rx.drew.drewN q).other (show gx ≠ w.heap.size by omega) _
    · rw [hw]; exact ((kw.drew.drewN q).setCell (.inr (Nat.le_refl _)) _)
  have KW : Hid (∀ w1, RowAt w1 w.heap.size 41 (wordsV [s0, 0, 0, 0, 0, 0, 0]) → RowAt w1 gx 41 (wordsV (x0 :: x1 :: xs)) → Keep [] w w1 → Calls Yba.prog 47 #[.slice (some ⟨w.heap.size, 1, none⟩) 1 6, .slice (some ⟨gx, 1, none⟩) 1 (cx - 1), .int .u64 d0] w1.drew fun e w' => e = .returned (.int .u64 d1) ∧ RowAt w' w.heap.size 41 (wordsV [s0, s1, 0, 0, 0, 0, 0]) ∧ Keep [] w w') := fun w1 r1 x1' k1 => by
    have h := addVW1_other w.heap.size 1 6 gx 1 (cx - 1) x1 d0 0 _ _ w1.drew (by omega) r1.drew x1'.drew (by rw [x1'.drew.cell]; rfl) (by rw [r1.drew.cell]; rfl) px1 qx1 hd0.1 hd0.2 (by omega) (by omega) (by omega) (by omega)
    rw [es1, ed1] at h
    refine h.mono fun e w' ⟨he, q, hw⟩ => ⟨he, ?_, ?_⟩
    · rw [hw]; exact (r1.drew.drewN q).set 1 (.int .u64 s1)
    · rw [hw]; exact ((k1.drew.drewN q).setCell (.inr (Nat.le_refl _)) _)
  have KN : Hid (∀ w', RowAt w' w.heap.size 41 (wordsV [s0, s1, d1, 0, 0, 0, 0]) → Calls Yba.prog 45 #[.slice (some ⟨w.heap.size, 0, none⟩) 3 7] w' fun e w'' => e = .returned (.slice (some ⟨w.heap.size, 0, none⟩) (normLen [s0, s1, d1, 0, 0, 0, 0] 3) 7) ∧ w'' = w') := fun w' h =>
    norm_any w.heap.size 3 7 [s0, s1, d1, 0, 0, 0, 0] w' h (by simp) (by omega) (by omega) (by omega)
  have htw := addVV_twin
  have i1 : (1 : Int) ≤ (cx : Int) := by omega
  have i4 : ¬ cx = 1 := by omega
  obtain ⟨N, hN⟩ : ∃ N, normLen [s0, s1, d1, 0, 0, 0, 0] 3 = N := ⟨_, rfl⟩
  rw [hN] at KN ⊢
  clear es0 ed0 es1 ed1 hN rn rg rx kw hr hrx hZ hd0
  go_enter Yba.func36, Yba.ntmps36
  go_wp2_with (go_at_call 40; refine (K.out _).mono ?_; rintro e w' ⟨rfl, hw⟩; subst hw)
  go_region_with (go_at_call 26; refine KV.out.mono ?_; rintro e w1 ⟨rfl, r1, rx1, k1⟩; have R1 := hid r1; have RX1 := hid rx1; have K1 := hid k1; clear r1 rx1 k1)
  go_wp2
  go_region_with (go_at_call 47; refine (KW.out _ R1.out RX1.out K1.out).mono ?_; rintro e w2 ⟨rfl, r2', k2⟩; have c2 : w2.cell? ⟨w.heap.size, 2, none⟩ = some (.int .u64 0) := (by rw [r2'.cell]; rfl); have f2 : w2.frozen? ⟨w.heap.size, 2, none⟩ = false := r2'.frozen 2; have R2 := hid r2'; have K2 := hid k2; clear r2' k2)
  go_wp2_with (go_at_call 45; refine (KN.out _ (R2.out.set 2 (.int .u64 d1))).mono ?_; rintro e w' ⟨rfl, hw⟩; subst hw)
  go_ret
  exact ⟨rfl, R2.out.set 2 (.int .u64 d1), K2.out.setCell (.inr (Nat.le_refl _)) _⟩
set_option maxHeartbeats 400000 in
theorem nadd_12 (g gx cx : Nat) (x0 x1 y0 : Int) (xs : List Int) (w : World) (hr : RowAt w g 41 (wordsV [y0])) (hrx : RowAt w gx 41 (wordsV (x0 :: x1 :: xs)))
    (px0 : 0 ≤ x0) (qx0 : x0 < 18446744073709551616) (px1 : 0 ≤ x1) (qx1 : x1 < 18446744073709551616) (py0 : 0 ≤ y0) (qy0 : y0 < 18446744073709551616) (hcx : 3 ≤ cx) (hcx' : cx ≤ 7)
    (s0 d0 s1 d1 : Int) (es0 : (x0 + y0) % 18446744073709551616 = s0) (ed0 : (x0 + y0) / 18446744073709551616 = d0) (es1 : (x1 + d0) % 18446744073709551616 = s1) (ed1 : (x1 + d0) / 18446744073709551616 = d1) :
    Calls Yba.prog 36 #[.slice (some ⟨g, 0, none⟩) 1 1, .slice (some ⟨g, 0, none⟩) 1 1, .slice (some ⟨gx, 0, none⟩) 2 cx] w fun e w' =>
      e = .returned (.slice (some ⟨w.heap.size, 0, none⟩) (normLen [s0, s1, d1, 0, 0, 0, 0] 3) 7) ∧ RowAt w' w.heap.size 41 (wordsV [s0, s1, d1, 0, 0, 0, 0]) ∧ Keep [] w w' := by
  have K := hid (nadd_12' g gx cx x0 x1 y0 xs w hr hrx px0 qx0 px1 qx1 py0 qy0 hcx hcx' s0 d0 s1 d1 es0 ed0 es1 ed1)
  obtain ⟨N, hN⟩ : ∃ N, normLen [s0, s1, d1, 0, 0, 0, 0] 3 = N := ⟨_, rfl⟩
  rw [hN] at K ⊢
  clear hr hrx es0 ed0 es1 ed1 hN
  go_enter Yba.func36, Yba.ntmps36
  go_wp2_with (go_at_call 36; refine K.out.mono ?_; rintro e w' ⟨rfl, hw1, hw2⟩)
  go_ret
  exact ⟨rfl, hw1, hw2⟩
end Go.Proofs.Ybulkcwhe
