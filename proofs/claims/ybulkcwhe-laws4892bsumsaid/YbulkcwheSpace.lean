import Derived.Test.YbulkcwheKit
namespace Go.Proofs.Ybulkcwhe
open Go.RowKit

/-- XML white space. -/
def ws (c : Int) : Bool := c == 9 || c == 10 || c == 13 || c == 32
theorem ws_no {c : Int} (h1 : c ≠ 9) (h2 : c ≠ 10) (h3 : c ≠ 13) (h4 : c ≠ 32) : ws c = false := by simp [ws, h1, h2, h3, h4]

set_option maxHeartbeats 400000 in
/-- zzs4892aws. -/
theorem aws_any (c : Int) (w : World) : Calls Yba.prog 8 #[.int .u8 c] w fun e w' => e = .returned (.bool (ws c)) ∧ w' = w := by
  by_cases h1 : c = 9
  · subst h1
    go_enter Yba.func8, Yba.ntmps8
    go_wp2
    go_ret
    exact ⟨rfl, rfl⟩
  by_cases h2 : c = 10
  · subst h2
    go_enter Yba.func8, Yba.ntmps8
    go_wp2
    go_ret
    exact ⟨rfl, rfl⟩
  by_cases h3 : c = 13
  · subst h3
    go_enter Yba.func8, Yba.ntmps8
    go_wp2
    go_ret
    exact ⟨rfl, rfl⟩
  by_cases h4 : c = 32
  · subst h4
    go_enter Yba.func8, Yba.ntmps8
    go_wp2
    go_ret
    exact ⟨rfl, rfl⟩
  have e := ws_no h1 h2 h3 h4
  have g1 : (c == 9) = false := by simpa using h1
  have g2 : (c == 10) = false := by simpa using h2
  have g3 : (c == 13) = false := by simpa using h3
  have g4 : (c == 32) = false := by simpa using h4
  go_enter Yba.func8, Yba.ntmps8
  go_wp2
  go_ret
  exact ⟨ret_bool e.symm, rfl⟩

set_option maxHeartbeats 400000 in
/-- isXMLSpaceByte. -/
theorem byte_any (c : Int) (w : World) : Calls Yba.prog 21 #[.int .u8 c] w fun e w' => e = .returned (.bool (ws c)) ∧ w' = w := by
  by_cases h1 : c = 9
  · subst h1
    go_enter Yba.func21, Yba.ntmps21
    go_wp2
    go_ret
    exact ⟨rfl, rfl⟩
  by_cases h2 : c = 10
  · subst h2
    go_enter Yba.func21, Yba.ntmps21
    go_wp2
    go_ret
    exact ⟨rfl, rfl⟩
  by_cases h3 : c = 13
  · subst h3
    go_enter Yba.func21, Yba.ntmps21
    go_wp2
    go_ret
    exact ⟨rfl, rfl⟩
  by_cases h4 : c = 32
  · subst h4
    go_enter Yba.func21, Yba.ntmps21
    go_wp2
    go_ret
    exact ⟨rfl, rfl⟩
  have e := ws_no h1 h2 h3 h4
  have g1 : (c == 9) = false := by simpa using h1
  have g2 : (c == 10) = false := by simpa using h2
  have g3 : (c == 13) = false := by simpa using h3
  have g4 : (c == 32) = false := by simpa using h4
  go_enter Yba.func21, Yba.ntmps21
  go_wp2
  go_ret
  exact ⟨ret_bool e.symm, rfl⟩

/-- isXMLSpace of a slice of no element, nil too. -/
theorem space_none (a : Option Addr) (c : Nat) (w : World) : Calls Yba.prog 9 #[.slice a 0 c] w fun e w' => e = .returned (.bool true) ∧ w' = w := by
  go_enter Yba.func9, Yba.ntmps9
  go_wp2
  refine wp_loop_rounds 1 ?_
  rw [rounds_succ]
  go_wp2
  go_ret
  exact ⟨rfl, rfl⟩

theorem all_take_succ {xs : List Int} {k : Nat} {v : Int} (h : xs[k]? = some v) : (xs.take (k + 1)).all ws = ((xs.take k).all ws && ws v) := by
  obtain ⟨hk, rfl⟩ := List.getElem?_eq_some_iff.1 h
  rw [List.take_succ_eq_append_getElem hk, List.all_append]; simp
theorem all_false_of {xs : List Int} {k : Nat} {v : Int} (h : xs[k]? = some v) (hk : ws v = false) : xs.all ws = false := by
  rw [List.all_eq_false]
  exact ⟨v, List.mem_of_getElem? h, by simpa using hk⟩
theorem get_of_lt {α : Type} {xs : List α} {k : Nat} (h : k < xs.length) : ∃ v, xs[k]? = some v := ⟨xs[k], List.getElem?_eq_getElem h⟩

set_option maxHeartbeats 400000 in
/-- isXMLSpace of a row of the call's own. -/
theorem space_any (g cap : Nat) (xs : List Int) (w : World) (hl : xs.length ≤ 4096) (hr : RowAt w g 5 (xs.map (Value.int .u8))) :
    Calls Yba.prog 9 #[.slice (some ⟨g, 0, none⟩) xs.length cap] w fun e w' => e = .returned (.bool (xs.all ws)) ∧ w' = w := by
  have hcell : ∀ k v, xs[k]? = some v → w.cell? ⟨g, k, none⟩ = some (.int .u8 v) := fun k v hk => by rw [hr.cell]; simp [hk]
  have HC : Hid _ := hcell
  clear hr hcell
  go_enter Yba.func9, Yba.ntmps9
  go_wp2
  go_loop [4, 7] (fun _ i => ∃ k : Nat, k ≤ xs.length ∧ i = .int .i64 k ∧ (xs.take k).all ws = true) (fun _ i => xs.length - (intOf i).toNat)
  case atStart => exact ⟨0, Nat.zero_le _, rfl, rfl⟩
  case round =>
    obtain ⟨k, hk, rfl, hp⟩ := hrel
    have HP : Hid ((xs.take k).all ws = true) := hp
    clear hp
    by_cases hlt : k < xs.length
    · obtain ⟨v, hv⟩ := get_of_lt hlt
      have hc := HC.out k v hv
      have HV : Hid _ := hv
      clear hv
      rcases hb : ws v with _ | _
      · go_wp2_with (go_at_call 21; refine (byte_any _ _).mono ?_; rintro e w' ⟨rfl, rfl⟩)
        go_ret
        exact ⟨ret_bool (all_false_of HV.out hb).symm, rfl⟩
      · go_wp2_with (go_at_call 21; refine (byte_any _ _).mono ?_; rintro e w' ⟨rfl, rfl⟩)
        go_round
        case rel => exact ⟨k + 1, by omega, by go_num, by rw [all_take_succ HV.out, HP.out, hb]; rfl⟩
        case measure => simp [intOf]; omega
    · go_wp2
      go_ret
      exact ⟨ret_bool (by have := HP.out; rw [List.take_of_length_le (by omega)] at this; rw [this]), rfl⟩
end Go.Proofs.Ybulkcwhe
