import Derived.Test.YbulkcwheAddVV
import Derived.Test.YbulkcwheSpace
namespace Go.Proofs.Ybulkcwhe
open Go.RowKit

/-- A row of words, as values. -/
def wordsV (xs : List Int) : List Value := xs.map (Value.int .u64)
theorem wordsV_get {xs : List Int} {i : Nat} {v : Int} (h : xs[i]? = some v) : (wordsV xs)[i]? = some (.int .u64 v) := by simp [wordsV, h]
theorem wordsV_set (xs : List Int) (i : Nat) (v : Int) : (wordsV xs).set i (.int .u64 v) = wordsV (xs.set i v) := by simp [wordsV, List.map_set]

/-- make(nat, n, c). -/
theorem make_words (n c : Nat) (hnc : n ≤ c) (hc : c ≤ 7) (w : World) :
    (Instr.makeSlice 66 (.int .i64 n) (.int .i64 c)).run Yba.prog w = .ok (.slice (some ⟨w.heap.size, 0, none⟩) n c) (w.alloc (.cells (wordsV (List.replicate c 0)).toArray 41)) := by
  obtain ⟨i0, hi, hz0, hz1, hz2⟩ := info_parts info41
  have h := run_make (P := Yba.prog) w 66 41 i0 (.int .u64 0) Yba.underlying66 hi hz0 .i64 .i64 (n : Int) (c : Int) (by omega) (by omega) (by rw [hz2]; omega) (by omega)
  rw [hz1] at h
  simpa [Value.cells, made_replicate, wordsV] using h

set_option maxHeartbeats 400000 in
/-- nat.make: there is room. -/
theorem nmake_fit (a : Option Addr) (l c n : Nat) (hn : n ≤ c) (_hc : c ≤ 7) (w : World) :
    Calls Yba.prog 40 #[.slice a l c, .int .i64 n] w fun e w' => e = .returned (.slice a n c) ∧ w' = w := by
  go_enter Yba.func40, Yba.ntmps40
  go_wp2

  go_ret
  exact ⟨rfl, rfl⟩

set_option maxHeartbeats 400000 in
/-- nat.make(1) of nil. -/
theorem nmake_one (w : World) :
    Calls Yba.prog 40 #[.slice none 0 0, .int .i64 1] w fun e w' => e = .returned (.slice (some ⟨w.heap.size, 0, none⟩) 1 1) ∧ w' = w.alloc (.cells #[.int .u64 0] 41) := by
  have hmk := make_words 1 1 (by omega) (by omega)
  simp [wordsV] at hmk
  go_enter Yba.func40, Yba.ntmps40
  go_wp2
  go_ret
  exact ⟨rfl, rfl⟩

set_option maxHeartbeats 400000 in
/-- nat.make(n): there is no room. -/
theorem nmake_new (a : Option Addr) (l c n : Nat) (hn : c < n) (hn2 : 2 ≤ n) (hn3 : n ≤ 3) (w : World) :
    Calls Yba.prog 40 #[.slice a l c, .int .i64 n] w fun e w' => e = .returned (.slice (some ⟨w.heap.size, 0, none⟩) n (n + 4)) ∧ w' = w.alloc (.cells (wordsV (List.replicate (n + 4) 0)).toArray 41) := by
  obtain ⟨Z, hZ⟩ : ∃ Z, wordsV (List.replicate (n + 4) 0) = Z := ⟨_, rfl⟩
  have hmk := make_words n (n + 4) (by omega) (by omega)
  rw [hZ] at hmk ⊢
  rw [show ((n + 4 : Nat) : Int) = (n : Int) + 4 from by omega] at hmk
  clear hZ
  go_enter Yba.func40, Yba.ntmps40
  go_wp2
  go_ret
  exact ⟨rfl, rfl⟩

/-- How many words are left when the leading noughts are struck. -/
def normLen (xs : List Int) : Nat → Nat
  | 0 => 0
  | n + 1 => if xs[n]?.getD 0 = 0 then normLen xs n else n + 1
theorem normLen_le (xs : List Int) (n : Nat) : normLen xs n ≤ n := by
  induction n with
  | zero => simp [normLen]
  | succ n ih => unfold normLen; split <;> omega

set_option maxHeartbeats 400000 in
/-- nat.norm. -/
theorem norm_any (g n c : Nat) (xs : List Int) (w : World) (hr : RowAt w g 41 (wordsV xs)) (hn : n ≤ xs.length) (hn0 : 0 < n) (hc : n ≤ c) (hc' : c ≤ 7) :
    Calls Yba.prog 45 #[.slice (some ⟨g, 0, none⟩) n c] w fun e w' => e = .returned (.slice (some ⟨g, 0, none⟩) (normLen xs n) c) ∧ w' = w := by
  have HR := hid hr
  clear hr
  obtain ⟨N, hN⟩ : ∃ N, normLen xs n = N := ⟨_, rfl⟩
  have hNle := normLen_le xs n
  rw [hN] at hNle ⊢
  have HN := hid hN
  clear hN
  go_enter Yba.func45, Yba.ntmps45
  go_wp2
  go_loop [3] (fun i => ∃ k : Nat, k ≤ n ∧ N ≤ k ∧ i = .int .i64 k ∧ normLen xs k = N) (fun i => (intOf i).toNat)
  case atStart => exact ⟨n, Nat.le_refl _, hNle, rfl, HN.out⟩
  case round =>
    obtain ⟨k, hk, hNk, rfl, hkN⟩ := hrel
    have HK := hid hkN
    clear hkN
    cases k with
    | zero =>
      have e0 : N = 0 := by omega
      subst e0
      go_wp2
      go_ret
      exact ⟨rfl, rfl⟩
    | succ k =>
      obtain ⟨v, hv⟩ := get_of_lt (show k < xs.length by omega)
      have c1 : w.cell? ⟨g, k, none⟩ = some (.int .u64 v) := by rw [HR.out.cell]; exact wordsV_get hv
      have HV := hid hv
      clear hv
      by_cases hz : v = 0
      · subst hz
        have hk' : normLen xs k = N := by have := HK.out; unfold normLen at this; rw [HV.out] at this; simpa using this
        have hle := normLen_le xs k
        have HK' := hid hk'
        have hNk' : N ≤ k := by omega
        clear hk' hle
        go_wp2
        go_round
        case rel => exact ⟨k, by omega, hNk', by go_num, HK'.out⟩
        case measure => simp [intOf]
      · have hz' : (v == 0) = false := by simpa using hz
        have hk' : N = k + 1 := by have := HK.out; unfold normLen at this; rw [HV.out] at this; simp [hz] at this; omega
        subst hk'
        go_wp2
        go_ret
        exact ⟨rfl, rfl⟩
end Go.Proofs.Ybulkcwhe
