import Derived.Test.YbulkcwhePlus
namespace Go.Proofs.Ybulkcwhe
open Go.RowKit

set_option maxHeartbeats 400000 in
/-- nat.cmp of nats of no word. -/
theorem ncmp_0 (a b : Option Addr) (c c' : Nat) (w : World) : Calls Yba.prog 32 #[.slice a 0 c, .slice b 0 c'] w fun e w' => e = .returned (.int .i64 0) ∧ Below w.heap.size w w' := by
  go_enter Yba.func32, Yba.ntmps32
  go_wp2
  go_ret
  exact ⟨rfl, Below.refl _ _⟩
set_option maxHeartbeats 1000000 in
/-- nat.cmp of two equal nats of one word. -/
theorem ncmp_1 (g g' c c' : Nat) (x : Int) (w : World) (h : w.cell? ⟨g, 0, none⟩ = some (.int .u64 x)) (h' : w.cell? ⟨g', 0, none⟩ = some (.int .u64 x)) :
    Calls Yba.prog 32 #[.slice (some ⟨g, 0, none⟩) 1 c, .slice (some ⟨g', 0, none⟩) 1 c'] w fun e w' => e = .returned (.int .i64 0) ∧ Below w.heap.size w w' := by
  go_enter Yba.func32, Yba.ntmps32
  go_wp2
  refine wp_loop_rounds 1 ?_
  rw [rounds_succ]
  go_wp2
  go_quiet (fail)
  go_wp2
  go_quiet (fail)
  go_wp2
  go_quiet (fail)
  go_wp2
  go_ret
  exact ⟨rfl, by simpa only [World.drewN_drewN] using below_drewN (Below.refl _ w) _⟩
set_option maxHeartbeats 1000000 in
/-- nat.cmp of two equal nats of two words. -/
theorem ncmp_2 (g g' c c' : Nat) (x y : Int) (w : World) (h : w.cell? ⟨g, 0, none⟩ = some (.int .u64 x)) (h' : w.cell? ⟨g', 0, none⟩ = some (.int .u64 x)) (k : w.cell? ⟨g, 1, none⟩ = some (.int .u64 y)) (k' : w.cell? ⟨g', 1, none⟩ = some (.int .u64 y)) :
    Calls Yba.prog 32 #[.slice (some ⟨g, 0, none⟩) 2 c, .slice (some ⟨g', 0, none⟩) 2 c'] w fun e w' => e = .returned (.int .i64 0) ∧ Below w.heap.size w w' := by
  go_enter Yba.func32, Yba.ntmps32
  go_wp2
  refine wp_loop_rounds 2 ?_
  rw [rounds_succ]
  go_wp2
  go_quiet (fail)
  go_wp2
  rw [rounds_succ]
  go_wp2
  go_quiet (fail)
  go_wp2
  go_quiet (fail)
  go_wp2
  go_quiet (fail)
  go_wp2
  go_ret
  exact ⟨rfl, by simpa only [World.drewN_drewN] using below_drewN (Below.refl _ w) _⟩

set_option maxHeartbeats 1000000 in
/-- (*Int).Cmp of two that are not negative, over nat.cmp's own contract. -/
theorem icmp_gen (g g' : Nat) (a b : Option Addr) (l c l' c' : Nat) (w : World) (hne : g ≠ g') (r : RowAt w g 68 [.bool false, .slice a l c]) (r' : RowAt w g' 68 [.bool false, .slice b l' c'])
    (h : ∀ w1, Below w.heap.size w w1 → Calls Yba.prog 32 #[.slice a l c, .slice b l' c'] w1 fun e w' => e = .returned (.int .i64 0) ∧ Below w1.heap.size w1 w') :
    Calls Yba.prog 15 #[.pointer (some ⟨g, 0, none⟩), .pointer (some ⟨g', 0, none⟩)] w fun e w' => e = .returned (.int .i64 0) ∧ Below w.heap.size w w' := by
  have K : Hid (∀ q, Calls Yba.prog 32 #[.slice a l c, .slice b l' c'] (w.drewN q).drew fun e w' => e = .returned (.int .i64 0) ∧ Below w.heap.size w w' ∧ w'.cell? ⟨g, 0, none⟩ = some (.bool false)) := fun q => by
    have hb : Below w.heap.size w (w.drewN q).drew := (below_drewN (Below.refl _ w) q).drew
    refine (h _ hb).mono fun e w' ⟨he, hb'⟩ => ⟨he, hb.trans hb', ?_⟩
    have r2 := (r.below hb r.lt).below hb' r.lt
    rw [r2.cell]; rfl
  have x0 : w.cell? ⟨g, 0, none⟩ = some (.bool false) := by rw [r.cell]; rfl
  have x1 : w.cell? ⟨g, 1, none⟩ = some (.slice a l c) := by rw [r.cell]; rfl
  have y0 : w.cell? ⟨g', 0, none⟩ = some (.bool false) := by rw [r'.cell]; rfl
  have y1 : w.cell? ⟨g', 1, none⟩ = some (.slice b l' c') := by rw [r'.cell]; rfl
  have hq := eql_ints_other w hne r r'
  clear r r' h
  go_enter Yba.func15, Yba.ntmps15
  go_wp2
  go_quiet (fail)
  go_wp2
  go_region_with (go_at_call 32; refine (K.out _).mono ?_; rintro e w1 ⟨rfl, b1, z0⟩)
  all_goals
    go_wp2
    go_ret
    exact ⟨rfl, b1⟩
/-- (*Int).Cmp of two equal Ints. -/
theorem icmp_any (B B' g g' : Nat) (ws : List Int) (w : World) (hne : g ≠ g') (hlen : ws.length ≤ 2) (h : IntR w B g ws) (h' : IntR w B' g' ws) :
    Calls Yba.prog 15 #[.pointer (some ⟨g, 0, none⟩), .pointer (some ⟨g', 0, none⟩)] w fun e w' => e = .returned (.int .i64 0) ∧ Below w.heap.size w w' := by
  obtain ⟨_, a, c, r, _, _, hrow⟩ := h
  obtain ⟨_, b, c', r', _, _, hrow'⟩ := h'
  refine icmp_gen g g' a b ws.length c ws.length c' w hne r r' fun w1 hb => ?_
  match ws, hlen, hrow, hrow' with
  | [], _, _, _ => exact ncmp_0 a b c c' w1
  | [x], _, hrow, hrow' =>
    rcases hrow with ⟨h0, _⟩ | ⟨_, k, rest, _, rfl, hk⟩
    · simp at h0
    rcases hrow' with ⟨h0, _⟩ | ⟨_, k', rest', _, rfl, hk'⟩
    · simp at h0
    have e := hk.below hb hk.lt
    have e' := hk'.below hb hk'.lt
    exact ncmp_1 k k' c c' x w1 (by rw [e.cell]; rfl) (by rw [e'.cell]; rfl)
  | [x, y], _, hrow, hrow' =>
    rcases hrow with ⟨h0, _⟩ | ⟨_, k, rest, _, rfl, hk⟩
    · simp at h0
    rcases hrow' with ⟨h0, _⟩ | ⟨_, k', rest', _, rfl, hk'⟩
    · simp at h0
    have e := hk.below hb hk.lt
    have e' := hk'.below hb hk'.lt
    exact ncmp_2 k k' c c' x y w1 (by rw [e.cell]; rfl) (by rw [e'.cell]; rfl) (by rw [e.cell]; rfl) (by rw [e'.cell]; rfl)
end Go.Proofs.Ybulkcwhe
