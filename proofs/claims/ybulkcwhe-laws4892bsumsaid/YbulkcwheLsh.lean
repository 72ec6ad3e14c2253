import Derived.Test.YbulkcwheNat2
import Derived.Lib.SliceRun
namespace Go.Proofs.Ybulkcwhe
open Go.RowKit

set_option maxHeartbeats 400000 in
/-- nat.lsh of nil by 64. -/
theorem lsh_nil (w : World) : Calls Yba.prog 35 #[.slice none 0 0, .slice none 0 0, .int .u64 64] w fun e w' => e = .returned (.slice none 0 0) ∧ w' = w := by
  go_enter Yba.func35, Yba.ntmps35
  go_wp2
  go_ret
  exact ⟨rfl, rfl⟩

theorem zero41 (w : World) : (zeroValue 41).run Yba.prog w = .ok (.int .u64 0) w := by kernel_rfl

set_option maxHeartbeats 1000000 in
/-- nat.lsh of one word by 64. -/
theorem lsh_one (g : Nat) (x : Int) (hx : (x == 0) = false) (w : World) (hr : RowAt w g 41 (wordsV [x])) :
    Calls Yba.prog 35 #[.slice (some ⟨g, 0, none⟩) 1 1, .slice (some ⟨g, 0, none⟩) 1 1, .int .u64 64] w fun e w' => e = .returned (.slice (some ⟨w.heap.size, 0, none⟩) 2 7) ∧ RowAt w' w.heap.size 41 (wordsV [0, x, 0, 0, 0, 0, 0]) ∧ Keep [] w w' := by
  obtain ⟨Z, hZ⟩ : ∃ Z, wordsV (List.replicate (3 + 4) 0) = Z := ⟨_, rfl⟩
  have K : Hid (∀ w, Calls Yba.prog 40 #[.slice (some ⟨g, 0, none⟩) 1 1, .int .i64 3] w fun e w' => e = .returned (.slice (some ⟨w.heap.size, 0, none⟩) 3 7) ∧ w' = w.alloc (.cells Z.toArray 41)) := fun w => by
    have := nmake_new (some ⟨g, 0, none⟩) 1 1 3 (by omega) (by omega) (by omega) w
    rw [hZ] at this
    exact this
  have rn : RowAt (w.alloc (.cells Z.toArray 41)) w.heap.size 41 (wordsV [0, 0, 0, 0, 0, 0, 0]) := by rw [← hZ]; exact RowAt.new w 41 _
  have hcp : ∀ ty, (Builtin.copy_ #[66, 66] ty #[.slice (some ⟨w.heap.size, 1, none⟩) 1 6, .slice (some ⟨g, 0, none⟩) 1 1]).run Yba.prog (w.alloc (.cells Z.toArray 41)) = .ok (goInt 1) ((w.alloc (.cells Z.toArray 41)).setRow w.heap.size (wordsV [0, x, 0, 0, 0, 0, 0]).toArray) := fun ty => by
    have h := copy_words ty _ w.heap.size 1 1 6 g 1 1 1 [0, 0, 0, 0, 0, 0, 0] [x] rn (hr.alloc _) rfl (by simp) (by simp)
    simpa using h
  have R := rn.setRow (wordsV [0, x, 0, 0, 0, 0, 0])
  have KP := ((Keep.refl [] w).alloc (.cells Z.toArray 41)).setRow (g := w.heap.size) (.inr (Nat.le_refl _)) (wordsV [0, x, 0, 0, 0, 0, 0]).toArray
  obtain ⟨W, hW⟩ : ∃ W, (w.alloc (.cells Z.toArray 41)).setRow w.heap.size (wordsV [0, x, 0, 0, 0, 0, 0]).toArray = W := ⟨_, rfl⟩
  rw [hW] at hcp R KP
  have c2 : W.cell? ⟨w.heap.size, 2, none⟩ = some (.int .u64 0) := by rw [R.cell]; rfl
  have f2 : W.frozen? ⟨w.heap.size, 2, none⟩ = false := R.frozen 2
  have R2 := R.set 2 (.int .u64 0)
  obtain ⟨W2, hW2⟩ : ∃ W2, W.setCell ⟨w.heap.size, 2, none⟩ (.int .u64 0) = W2 := ⟨_, rfl⟩
  have KP2 := KP.setCell (p := ⟨w.heap.size, 2, none⟩) (.inr (Nat.le_refl _)) (.int .u64 0)
  rw [hW2] at R2 KP2
  have hcl : ∀ ty, (Builtin.clear_ #[66] ty #[.slice (some ⟨w.heap.size, 0, none⟩) 1 7]).run Yba.prog W2 = .ok (.tuple #[]) (W2.setCell ⟨w.heap.size, 0, none⟩ (.int .u64 0)) := fun ty => by
    have h := Lib.run_clear_slice (P := Yba.prog) W2 66 41 ty (.int .u64 0) Yba.underlying66 zero41 rfl rfl w.heap.size 0 1 7 (by omega) (fun j hj => by
      have : j = 0 := by omega
      subst this
      rw [R2.cell]; rfl) (fun j hj => R2.frozen _)
    simpa [World.setCells] using h
  have R3 := R2.set 0 (.int .u64 0)
  have KP3 := KP2.setCell (p := ⟨w.heap.size, 0, none⟩) (.inr (Nat.le_refl _)) (.int .u64 0)
  obtain ⟨W3, hW3⟩ : ∃ W3, W2.setCell ⟨w.heap.size, 0, none⟩ (.int .u64 0) = W3 := ⟨_, rfl⟩
  rw [hW3] at R3 KP3 hcl
  have kn : Hid (Calls Yba.prog 45 #[.slice (some ⟨w.heap.size, 0, none⟩) 3 7] W3 fun e w' => e = .returned (.slice (some ⟨w.heap.size, 0, none⟩) 2 7) ∧ w' = W3) := by
    have h := norm_any w.heap.size 3 7 [0, x, 0, 0, 0, 0, 0] W3 R3 (by simp) (by omega) (by omega) (by omega)
    have e : normLen [0, x, 0, 0, 0, 0, 0] 3 = 2 := by
      have hx' : ¬ x = 0 := by simpa using hx
      simp [normLen, hx']
    rw [e] at h
    exact h
  have RW := hid R3
  have KW := hid KP3
  clear hW hZ rn hr R KP R2 KP2 R3 KP3 hW3
  go_enter Yba.func35, Yba.ntmps35
  go_wp2_with fail
  refine (K.out _).mono ?_
  rintro e w' ⟨rfl, hw⟩
  subst hw
  go_wp2_with (go_at_call 45; refine kn.out.mono ?_; rintro e w' ⟨rfl, hw⟩; subst hw)
  go_ret
  exact ⟨rfl, RW.out, KW.out⟩
end Go.Proofs.Ybulkcwhe
