import Derived.Test.YbulkcwheNatAdd
namespace Go.Proofs.Ybulkcwhe
open Go.RowKit

theorem neq_ints_other {g g' : Nat} {vs vs' : List Value} (w : World) (hne : g ≠ g') (h : RowAt w g 68 vs) (h' : RowAt w g' 68 vs') : (binOp .neq 29 (.pointer (some ⟨g, 0, none⟩)) (.pointer (some ⟨g', 0, none⟩))).run Yba.prog w = .ok (.bool true) w := by
  have hi := info68
  cases hq : Yba.prog.info? 68 with
  | none => simp [hq] at hi
  | some j =>
    have hs : j.size = 2 := by simpa [hq] using hi
    exact run_neq_ptr_other w Yba.underlying29 hq (by omega) (fun e => hne (congrArg Addr.block e)) h h'
theorem eql_ints_other {g g' : Nat} {vs vs' : List Value} (w : World) (hne : g ≠ g') (h : RowAt w g 68 vs) (h' : RowAt w g' 68 vs') : (binOp .eql 29 (.pointer (some ⟨g, 0, none⟩)) (.pointer (some ⟨g', 0, none⟩))).run Yba.prog w = .ok (.bool false) w := by
  have hi := info68
  cases hq : Yba.prog.info? 68 with
  | none => simp [hq] at hi
  | some j =>
    have hs : j.size = 2 := by simpa [hq] using hi
    exact run_eql_ptr_other w Yba.underlying29 hq (by omega) (fun e => hne (congrArg Addr.block e)) h h'

set_option maxHeartbeats 400000 in
/-- (*Int).SetUint64 of a new Int, to 0. -/
theorem isetU_zero (gz : Nat) (w : World) (rz : RowAt w gz 68 [.bool false, .slice none 0 0]) :
    Calls Yba.prog 22 #[.pointer (some ⟨gz, 0, none⟩), .int .u64 0] w fun e w' => e = .returned (.pointer (some ⟨gz, 0, none⟩)) ∧ RowAt w' gz 68 [.bool false, .slice none 0 0] ∧ Keep [gz] w w' := by
  have K := hid setU_zero
  have c0 : w.cell? ⟨gz, 0, none⟩ = some (.bool false) := by rw [rz.cell]; rfl
  have c1 : w.cell? ⟨gz, 1, none⟩ = some (.slice none 0 0) := by rw [rz.cell]; rfl
  have f0 := rz.frozen 0
  have f1 := rz.frozen 1
  have RZ := hid rz
  clear rz
  go_enter Yba.func22, Yba.ntmps22
  go_wp2_with (go_at_call 34; refine (K.out _).mono ?_; rintro e w' ⟨rfl, hw⟩; subst hw)
  go_ret
  exact ⟨rfl, (RZ.out.set 1 (.slice none 0 0)).set 0 (.bool false), ((Keep.refl [gz] _).setCell (.inl (by simp)) _).setCell (.inl (by simp)) _⟩

set_option maxHeartbeats 400000 in
/-- (*Int).SetUint64 of a new Int, to a number that is not 0. -/
theorem isetU_one (gz : Nat) (x : Int) (hx : (x == 0) = false) (w : World) (rz : RowAt w gz 68 [.bool false, .slice none 0 0]) :
    Calls Yba.prog 22 #[.pointer (some ⟨gz, 0, none⟩), .int .u64 x] w fun e w' => e = .returned (.pointer (some ⟨gz, 0, none⟩)) ∧ RowAt w' gz 68 [.bool false, .slice (some ⟨w.heap.size, 0, none⟩) 1 1] ∧ RowAt w' w.heap.size 41 (wordsV [x]) ∧ Keep [gz] w w' := by
  have K := hid (setU_one x hx)
  have c0 : w.cell? ⟨gz, 0, none⟩ = some (.bool false) := by rw [rz.cell]; rfl
  have c1 : w.cell? ⟨gz, 1, none⟩ = some (.slice none 0 0) := by rw [rz.cell]; rfl
  have f0 := rz.frozen 0
  have f1 := rz.frozen 1
  have lz := rz.lt
  have RZ := hid rz
  clear rz
  go_enter Yba.func22, Yba.ntmps22
  go_wp2_with (go_at_call 34; refine (K.out _).mono ?_; rintro e w' ⟨rfl, hw⟩; subst hw)
  go_ret
  refine ⟨rfl, ((RZ.out.set 1 _).set 0 _).alloc _, ?_, ((((Keep.refl [gz] _).setCell (.inl (by simp)) _).setCell (.inl (by simp)) _).alloc _)⟩
  have := RowAt.new ((w.setCell ⟨gz, 1, none⟩ (.slice (some ⟨w.heap.size, 0, none⟩) 1 1)).setCell ⟨gz, 0, none⟩ (.bool false)) 41 (wordsV [x])
  simpa [wordsV] using this

set_option maxHeartbeats 1000000 in
/-- (*Int).Set of a new Int, over nat.set's own contract. -/
theorem iset_gen (gz gx : Nat) (ax ar : Option Addr) (lx cx lr cr : Nat) (R : World → Prop) (w : World) (hne : gz ≠ gx) (rz : RowAt w gz 68 [.bool false, .slice none 0 0]) (rx : RowAt w gx 68 [.bool false, .slice ax lx cx])
    (h : Calls Yba.prog 43 #[.slice none 0 0, .slice ax lx cx] w.drew fun e w' => e = .returned (.slice ar lr cr) ∧ R w' ∧ Keep [] w w') :
    Calls Yba.prog 38 #[.pointer (some ⟨gz, 0, none⟩), .pointer (some ⟨gx, 0, none⟩)] w fun e w' => e = .returned (.pointer (some ⟨gz, 0, none⟩)) ∧ ∃ w1, R w1 ∧ Keep [] w w1 ∧ w' = (w1.setCell ⟨gz, 1, none⟩ (.slice ar lr cr)).setCell ⟨gz, 0, none⟩ (.bool false) := by
  have K := hid h
  have z0 : w.cell? ⟨gz, 0, none⟩ = some (.bool false) := by rw [rz.cell]; rfl
  have z1 : w.cell? ⟨gz, 1, none⟩ = some (.slice none 0 0) := by rw [rz.cell]; rfl
  have x1 : w.cell? ⟨gx, 1, none⟩ = some (.slice ax lx cx) := by rw [rx.cell]; rfl
  have hnq := neq_ints_other w hne rz rx
  have KC : Hid (∀ w1, Keep [] w w1 → w1.cell? ⟨gz, 0, none⟩ = some (.bool false) ∧ w1.cell? ⟨gz, 1, none⟩ = some (.slice none 0 0) ∧ w1.cell? ⟨gx, 0, none⟩ = some (.bool false) ∧ w1.frozen? ⟨gz, 0, none⟩ = false ∧ w1.frozen? ⟨gz, 1, none⟩ = false) := fun w1 k => by
    have a := rz.keep k (by simp)
    have b := rx.keep k (by simp)
    exact ⟨by rw [a.cell]; rfl, by rw [a.cell]; rfl, by rw [b.cell]; rfl, a.frozen 0, a.frozen 1⟩
  have hne' : ¬ gx = gz := fun e => hne e.symm
  clear rz rx h
  go_enter Yba.func38, Yba.ntmps38
  go_wp2
  go_region_with (go_at_call 43; refine K.out.mono ?_; rintro e w1 ⟨rfl, r1, k1⟩; obtain ⟨a0, a1, b0, f0, f1⟩ := KC.out w1 k1; have R1 := hid r1; have K1 := hid k1; clear r1 k1)
  all_goals
    go_wp2
    go_ret
    exact ⟨rfl, _, R1.out, K1.out, rfl⟩

set_option maxHeartbeats 1000000 in
/-- (*Int).Lsh(z, z, 64), over nat.lsh's own contract. -/
theorem ilsh_gen (gz : Nat) (ax ar : Option Addr) (lx cx lr cr : Nat) (R : World → Prop) (w : World) (rz : RowAt w gz 68 [.bool false, .slice ax lx cx])
    (h : Calls Yba.prog 35 #[.slice ax lx cx, .slice ax lx cx, .int .u64 64] w.drew fun e w' => e = .returned (.slice ar lr cr) ∧ R w' ∧ Keep [] w w') :
    Calls Yba.prog 23 #[.pointer (some ⟨gz, 0, none⟩), .pointer (some ⟨gz, 0, none⟩), .int .u64 64] w fun e w' => e = .returned (.pointer (some ⟨gz, 0, none⟩)) ∧ ∃ w1, R w1 ∧ Keep [] w w1 ∧ w' = (w1.setCell ⟨gz, 1, none⟩ (.slice ar lr cr)).setCell ⟨gz, 0, none⟩ (.bool false) := by
  have K := hid h
  have z0 : w.cell? ⟨gz, 0, none⟩ = some (.bool false) := by rw [rz.cell]; rfl
  have z1 : w.cell? ⟨gz, 1, none⟩ = some (.slice ax lx cx) := by rw [rz.cell]; rfl
  have KC : Hid (∀ w1, Keep [] w w1 → w1.cell? ⟨gz, 0, none⟩ = some (.bool false) ∧ w1.cell? ⟨gz, 1, none⟩ = some (.slice ax lx cx) ∧ w1.frozen? ⟨gz, 0, none⟩ = false ∧ w1.frozen? ⟨gz, 1, none⟩ = false) := fun w1 k => by
    have a := rz.keep k (by simp)
    exact ⟨by rw [a.cell]; rfl, by rw [a.cell]; rfl, a.frozen 0, a.frozen 1⟩
  clear rz h
  go_enter Yba.func23, Yba.ntmps23
  go_wp2
  go_region_with (go_at_call 35; refine K.out.mono ?_; rintro e w1 ⟨rfl, r1, k1⟩; obtain ⟨a0, a1, f0, f1⟩ := KC.out w1 k1; have R1 := hid r1; have K1 := hid k1; clear r1 k1)
  all_goals
    go_wp2
    go_ret
    exact ⟨rfl, _, R1.out, K1.out, rfl⟩

set_option maxHeartbeats 1000000 in
/-- (*Int).Add(z, z, y) of two that are not negative, over nat.add's own contract. -/
theorem iadd_gen (gz gy : Nat) (ax ay ar : Option Addr) (lx cx ly cy lr cr : Nat) (S : List Nat) (R : World → Prop) (w : World) (hz : gz ∉ S) (rz : RowAt w gz 68 [.bool false, .slice ax lx cx]) (ry : RowAt w gy 68 [.bool false, .slice ay ly cy])
    (h : ∀ q, Calls Yba.prog 36 #[.slice ax lx cx, .slice ax lx cx, .slice ay ly cy] (w.drewN q) fun e w' => e = .returned (.slice ar lr cr) ∧ R w' ∧ Keep S w w') :
    Calls Yba.prog 24 #[.pointer (some ⟨gz, 0, none⟩), .pointer (some ⟨gz, 0, none⟩), .pointer (some ⟨gy, 0, none⟩)] w fun e w' => e = .returned (.pointer (some ⟨gz, 0, none⟩)) ∧ ∃ w1, R w1 ∧ Keep S w w1 ∧ w' = (w1.setCell ⟨gz, 1, none⟩ (.slice ar lr cr)).setCell ⟨gz, 0, none⟩ (.bool false) := by
  have K : Hid (∀ q, Calls Yba.prog 36 #[.slice ax lx cx, .slice ax lx cx, .slice ay ly cy] (w.drewN q).drew fun e w' => e = .returned (.slice ar lr cr) ∧ R w' ∧ Keep S w w') := fun q => h (q + 1)
  have z0 : w.cell? ⟨gz, 0, none⟩ = some (.bool false) := by rw [rz.cell]; rfl
  have z1 : w.cell? ⟨gz, 1, none⟩ = some (.slice ax lx cx) := by rw [rz.cell]; rfl
  have y0 : w.cell? ⟨gy, 0, none⟩ = some (.bool false) := by rw [ry.cell]; rfl
  have y1 : w.cell? ⟨gy, 1, none⟩ = some (.slice ay ly cy) := by rw [ry.cell]; rfl
  have KC : Hid (∀ w1, Keep S w w1 → w1.cell? ⟨gz, 0, none⟩ = some (.bool false) ∧ w1.cell? ⟨gz, 1, none⟩ = some (.slice ax lx cx) ∧ w1.frozen? ⟨gz, 0, none⟩ = false ∧ w1.frozen? ⟨gz, 1, none⟩ = false) := fun w1 k => by
    have a := rz.keep k hz
    exact ⟨by rw [a.cell]; rfl, by rw [a.cell]; rfl, a.frozen 0, a.frozen 1⟩
  clear rz ry h
  by_cases hlr : lr = 0
  · subst hlr
    go_enter Yba.func24, Yba.ntmps24
    go_wp2
    go_quiet (fail)
    go_wp2
    go_region_with (go_at_call 36; refine (K.out _).mono ?_; rintro e w1 ⟨rfl, r1, k1⟩; obtain ⟨a0, a1, f0, f1⟩ := KC.out w1 k1; have R1 := hid r1; have K1 := hid k1; clear r1 k1)
    all_goals
      go_wp2
      go_ret
      exact ⟨rfl, _, R1.out, K1.out, rfl⟩
  · have hlr' : (0 : Int) < (lr : Int) := by omega
    go_enter Yba.func24, Yba.ntmps24
    go_wp2
    go_quiet (fail)
    go_wp2
    go_region_with (go_at_call 36; refine (K.out _).mono ?_; rintro e w1 ⟨rfl, r1, k1⟩; obtain ⟨a0, a1, f0, f1⟩ := KC.out w1 k1; have R1 := hid r1; have K1 := hid k1; clear r1 k1)
    all_goals
      go_wp2
      go_ret
      exact ⟨rfl, _, R1.out, K1.out, rfl⟩
end Go.Proofs.Ybulkcwhe
