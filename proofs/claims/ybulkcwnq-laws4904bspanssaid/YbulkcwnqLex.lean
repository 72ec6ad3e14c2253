import Derived.Test.YbulkcwnqTree
namespace Go.Proofs.Ybulkcwnq
open Go.RowKit

/-- slices.Compare. -/
def lexC : List Int → List Int → Int
  | [], [] => 0
  | [], _ :: _ => -1
  | _ :: _, [] => 1
  | x :: xs, y :: ys => if x < y then -1 else if y < x then 1 else lexC xs ys
def cmpI (x y : Int) : Int := if x < y then -1 else if y < x then 1 else 0

theorem lexC_step {xs ys : List Int} {k : Nat} {x y : Int} (hx : xs[k]? = some x) (hy : ys[k]? = some y) : lexC (xs.drop k) (ys.drop k) = if cmpI x y = 0 then lexC (xs.drop (k + 1)) (ys.drop (k + 1)) else cmpI x y := by
  obtain ⟨h1, rfl⟩ := List.getElem?_eq_some_iff.1 hx
  obtain ⟨h2, rfl⟩ := List.getElem?_eq_some_iff.1 hy
  rw [List.drop_eq_getElem_cons h1, List.drop_eq_getElem_cons h2]
  unfold cmpI
  simp only [lexC]
  by_cases a : xs[k] < ys[k]
  · simp [a]
  · by_cases b : ys[k] < xs[k] <;> simp [a, b]
theorem lexC_long {xs ys : List Int} {k : Nat} (hx : k < xs.length) (hy : ys.length ≤ k) : lexC (xs.drop k) (ys.drop k) = 1 := by
  rw [List.drop_eq_getElem_cons hx, List.drop_of_length_le hy]; rfl
theorem lexC_end {xs ys : List Int} {k : Nat} (hx : xs.length ≤ k) : lexC (xs.drop k) (ys.drop k) = if k < ys.length then -1 else 0 := by
  rw [List.drop_of_length_le hx]
  by_cases h : k < ys.length
  · rw [List.drop_eq_getElem_cons h, if_pos h]; rfl
  · rw [List.drop_of_length_le (by omega), if_neg h]; rfl

def u32V (xs : List Int) : List Value := xs.map (Value.int .u32)
theorem u32V_get {xs : List Int} {i : Nat} {v : Int} (h : xs[i]? = some v) : (u32V xs)[i]? = some (.int .u32 v) := by simp [u32V, h]

set_option maxHeartbeats 400000 in
/-- cmp.Compare at uint32. -/
theorem cmpU_any (x y : Int) (w : World) : Calls Yba.prog 17 #[.int .u32 x, .int .u32 y] w fun e w' => e = .returned (.int .i64 (cmpI x y)) ∧ w' = w := by
  unfold cmpI
  rcases Int.lt_trichotomy x y with hl | he | hg
  · rw [if_pos hl]
    go_enter Yba.func17, Yba.ntmps17
    go_wp2
    go_ret
    exact ⟨rfl, rfl⟩
  · subst he
    rw [if_neg (by omega), if_neg (by omega)]
    go_enter Yba.func17, Yba.ntmps17
    go_wp2
    go_ret
    exact ⟨rfl, rfl⟩
  · have hg' : ¬ x < y := by omega
    rw [if_neg hg', if_pos hg]
    go_enter Yba.func17, Yba.ntmps17
    go_wp2
    go_ret
    exact ⟨rfl, rfl⟩
set_option maxHeartbeats 400000 in
/-- cmp.Compare at int64. -/
theorem cmpL_any (x y : Int) (w : World) : Calls Yba.prog 35 #[.int .i64 x, .int .i64 y] w fun e w' => e = .returned (.int .i64 (cmpI x y)) ∧ w' = w := by
  unfold cmpI
  rcases Int.lt_trichotomy x y with hl | he | hg
  · rw [if_pos hl]
    go_enter Yba.func35, Yba.ntmps35
    go_wp2
    go_ret
    exact ⟨rfl, rfl⟩
  · subst he
    rw [if_neg (by omega), if_neg (by omega)]
    go_enter Yba.func35, Yba.ntmps35
    go_wp2
    go_ret
    exact ⟨rfl, rfl⟩
  · have hg' : ¬ x < y := by omega
    rw [if_neg hg', if_pos hg]
    go_enter Yba.func35, Yba.ntmps35
    go_wp2
    go_ret
    exact ⟨rfl, rfl⟩

set_option maxHeartbeats 1000000 in
/-- slices.Compare at []uint32. -/
theorem lex_any (g1 c1 g2 c2 : Nat) (xs ys : List Int) (w : World) (h1 : ∀ k v, xs[k]? = some v → w.cell? ⟨g1, k, none⟩ = some (.int .u32 v)) (h2 : ∀ k v, ys[k]? = some v → w.cell? ⟨g2, k, none⟩ = some (.int .u32 v)) (l1 : xs.length ≤ 1025) (_ : ys.length ≤ 1025) :
    Calls Yba.prog 9 #[.slice (some ⟨g1, 0, none⟩) xs.length c1, .slice (some ⟨g2, 0, none⟩) ys.length c2] w fun e w' => e = .returned (.int .i64 (lexC xs ys)) ∧ w' = w := by
  have H1 := hid h1
  have H2 := hid h2
  clear h1 h2
  obtain ⟨R, hR⟩ : ∃ R, lexC xs ys = R := ⟨_, rfl⟩
  rw [hR]
  have HR := hid hR
  clear hR
  go_enter Yba.func9, Yba.ntmps9
  go_wp2
  go_loop [5, 6, 7, 8, 11] (fun _ _ _ _ i => ∃ k : Nat, k ≤ xs.length ∧ i = .int .i64 k ∧ lexC (xs.drop k) (ys.drop k) = R) (fun _ _ _ _ i => xs.length - (intOf i).toNat)
  case atStart => exact ⟨0, Nat.zero_le _, rfl, HR.out⟩
  case round =>
    obtain ⟨k, hk, rfl, hr⟩ := hrel
    have HK := hid hr
    clear hr
    by_cases hlt : k < xs.length
    · obtain ⟨x, hx⟩ := get_of_lt hlt
      have d1 := H1.out k x hx
      by_cases hly : k < ys.length
      · obtain ⟨y, hy⟩ := get_of_lt hly
        have d2 := H2.out k y hy
        have S := hid (lexC_step hx hy)
        obtain ⟨c, hc⟩ : ∃ c, cmpI x y = c := ⟨_, rfl⟩
        have kc : Hid (∀ w, Calls Yba.prog 17 #[.int .u32 x, .int .u32 y] w fun e w' => e = .returned (.int .i64 c) ∧ w' = w) := fun w => hc ▸ cmpU_any x y w
        rw [hc] at S
        clear hx hy hc
        by_cases hz : c = 0
        · subst hz
          go_wp2_with (go_at_call 17; refine (kc.out _).mono ?_; rintro e w' ⟨rfl, hw⟩; subst hw)
          go_round
          case rel => exact ⟨k + 1, by omega, by go_num, by have h := S.out; simp only [if_true] at h; rw [← h]; exact HK.out⟩
          case measure => simp [intOf]; omega
        · have hz' : (c != 0) = true := by simpa using hz
          go_wp2_with (go_at_call 17; refine (kc.out _).mono ?_; rintro e w' ⟨rfl, hw⟩; subst hw)
          go_ret
          exact ⟨ret_int' (by have h := S.out; rw [if_neg hz] at h; rw [← h]; exact HK.out), rfl⟩
      · clear hx
        go_wp2
        go_ret
        exact ⟨ret_int' (by have h := lexC_long (xs := xs) (ys := ys) hlt (by omega); rw [← HK.out, h]), rfl⟩
    · by_cases hly : xs.length < ys.length
      · go_wp2
        go_ret
        exact ⟨ret_int' (by have h := lexC_end (xs := xs) (ys := ys) (k := k) (by omega); rw [if_pos (by omega)] at h; rw [← HK.out, h]), rfl⟩
      · go_wp2
        go_ret
        exact ⟨ret_int' (by have h := lexC_end (xs := xs) (ys := ys) (k := k) (by omega); rw [if_neg (by omega)] at h; rw [← HK.out, h]), rfl⟩
set_option maxHeartbeats 400000 in
/-- The closure that the law hands to SortFunc. -/
theorem lexClosure (g1 c1 g2 c2 : Nat) (xs ys : List Int) (w : World) (h1 : ∀ k v, xs[k]? = some v → w.cell? ⟨g1, k, none⟩ = some (.int .u32 v)) (h2 : ∀ k v, ys[k]? = some v → w.cell? ⟨g2, k, none⟩ = some (.int .u32 v)) (l1 : xs.length ≤ 1025) (l2 : ys.length ≤ 1025) :
    Calls Yba.prog 8 #[.slice (some ⟨g1, 0, none⟩) xs.length c1, .slice (some ⟨g2, 0, none⟩) ys.length c2] w fun e w' => e = .returned (.int .i64 (lexC xs ys)) ∧ w' = w := by
  have K := hid (lex_any g1 c1 g2 c2 xs ys w h1 h2 l1 l2)
  obtain ⟨R, hR⟩ : ∃ R, lexC xs ys = R := ⟨_, rfl⟩
  rw [hR] at K ⊢
  clear hR h1 h2
  go_enter Yba.func8, Yba.ntmps8
  go_wp2_with (go_at_call 9; refine K.out.mono ?_; rintro e w' ⟨rfl, hw⟩; subst hw)
  go_ret
  exact ⟨rfl, rfl⟩
end Go.Proofs.Ybulkcwnq
