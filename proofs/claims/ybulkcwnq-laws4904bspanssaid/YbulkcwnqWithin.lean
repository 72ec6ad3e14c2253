import Derived.Test.YbulkcwnqAhead
import Derived.Shelf.SlCmpFuncs.BinarySearchFunc
namespace Go.Proofs.Ybulkcwnq
open Go.RowKit Go.Lib

set_option maxHeartbeats 1000000 in
/-- The closure that within hands to the search. -/
theorem atC_any (p : Pl) (rows : List (List Int)) (u d bp bd : Nat) (r : List Int) (tgt : Int) (w : World) (P : PlanAt w p rows) (hu : rows[u]? = some r) (hd : d ≤ 1024)
    (h1 : w.cell? ⟨bp, 0, none⟩ = some (.pointer (some ⟨p.gP, 0, none⟩))) (h2 : w.cell? ⟨bd, 0, none⟩ = some (.int .i64 d)) :
    Calls Yba.prog 34 #[.int .i64 u, .int .i64 tgt, .pointer (some ⟨bp, 0, none⟩), .pointer (some ⟨bd, 0, none⟩)] w fun e w' => e = .returned (.int .i64 (cmpI (rid r d) tgt)) ∧ ∃ q, w' = w.drewN q := by
  have K1 := hid (restID_any p rows u d r w P hu hd)
  have K2 : Hid (∀ x y w, Calls Yba.prog 35 #[.int .i64 x, .int .i64 y] w fun e w' => e = .returned (.int .i64 (cmpI x y)) ∧ w' = w) := fun x y w => cmpL_any x y w
  clear P hu
  obtain ⟨x, hx⟩ : ∃ x, rid r d = x := ⟨_, rfl⟩
  rw [hx] at K1 ⊢
  clear hx
  have K3 : Hid (∀ w, Calls Yba.prog 35 #[.int .i64 x, .int .i64 tgt] w fun e w' => e = .returned (.int .i64 (cmpI x tgt)) ∧ w' = w) := fun w => K2.out x tgt w
  clear K2
  obtain ⟨y, hy⟩ : ∃ y, cmpI x tgt = y := ⟨_, rfl⟩
  rw [hy] at K3 ⊢
  clear hy
  go_enter Yba.func34, Yba.ntmps34
  go_wp2_with (first | (go_at_call 18; refine K1.out.mono ?_; rintro e w' ⟨rfl, q, rfl⟩) | (go_at_call 35; refine (K3.out _).mono ?_; rintro e w' ⟨rfl, hw⟩; subst hw))
  go_ret
  exact ⟨rfl, _, rfl⟩

theorem f34enters : ∀ args w, (callFunc 34 args).run Yba.prog w = .ok (.enter 34 args) w := enters_of Yba.func34 (by kernel_rfl) rfl

set_option maxHeartbeats 4000000 in
/-- slices.BinarySearchFunc at the closure of within. -/
theorem search_any (g a m cap bp bd : Nat) (tgt : Int) (f : Nat → Int) (w : World) (ha : a + m ≤ 1024) (hc : ∀ i, i < m → w.cell? ⟨g, a + i, none⟩ = some (.int .i64 ((a + i : Nat) : Int)))
    (H : ∀ q i, i < m → Calls Yba.prog 34 #[.int .i64 ((a + i : Nat) : Int), .int .i64 tgt, .pointer (some ⟨bp, 0, none⟩), .pointer (some ⟨bd, 0, none⟩)] (w.drewN q) fun e w' => e = .returned (.int .i64 (f i)) ∧ ∃ q', w' = w.drewN q')
    (hmono : ∀ i j, i ≤ j → j < m → f j < 0 → f i < 0) :
    Calls Yba.prog 36 #[.slice (some ⟨g, a, none⟩) m cap, .int .i64 tgt, .func (.func 34) #[] #[.pointer (some ⟨bp, 0, none⟩), .pointer (some ⟨bd, 0, none⟩)]] w fun e w' =>
      ∃ (i : Nat) (b : Bool), e = .returned (.tuple #[.int .i64 i, .bool b]) ∧ i ≤ m ∧ (∀ t, t < i → f t < 0) ∧ (∀ t, i ≤ t → t < m → 0 ≤ f t) ∧ (b = true ↔ i < m ∧ f i = 0) ∧ ∃ q, w' = w.drewN q := by
  have eg := f34enters
  have HC := hid hc
  have HH := hid H
  have M := hid hmono
  clear hc H hmono
  go_enter Yba.func36, Yba.ntmps36
  go_wp2
  go_loopw [9, 10] (fun x y wr => (∃ q, wr = w.drewN q) ∧ ∃ lo hi : Nat, x = .int .i64 lo ∧ y = .int .i64 hi ∧ lo ≤ hi ∧ hi ≤ m ∧ (∀ t, t < lo → f t < 0) ∧ (∀ t, hi ≤ t → t < m → 0 ≤ f t)) (fun x y _ => (intOf y).toNat - (intOf x).toNat)
  case atStart => exact ⟨⟨0, rfl⟩, 0, m, rfl, rfl, Nat.zero_le _, Nat.le_refl _, fun t ht => absurd ht (Nat.not_lt_zero _), fun t h1 h2 => by omega⟩
  case round =>
    obtain ⟨⟨q, rfl⟩, lo, hi, rfl, rfl, hlh, hin, i1, i2⟩ := hrel
    have I1 := hid i1
    have I2 := hid i2
    clear i1 i2
    by_cases hlt : lo < hi
    · have cm := HC.out ((lo + hi) / 2) (by omega)
      have K := hid (HH.out q ((lo + hi) / 2) (by omega))
      obtain ⟨y, hy⟩ : ∃ y, f ((lo + hi) / 2) = y := ⟨_, rfl⟩
      rw [hy] at K
      have Y := hid hy
      clear hy
      by_cases hyx : y < 0
      · have hyd : decide (y < 0) = true := decide_eq_true hyx
        go_wp2_with (go_at_fn 34; refine K.out.mono ?_; rintro e w' ⟨rfl, q', rfl⟩)
        go_roundw
        case rel =>
          exact ⟨⟨_, rfl⟩, (lo + hi) / 2 + 1, hi, by go_num, rfl, by omega, hin, fun t ht => M.out t ((lo + hi) / 2) (by omega) (by omega) (by rw [Y.out]; exact hyx), I2.out⟩
        case measure => simp [intOf]; omega
      · have hyd : decide (y < 0) = false := decide_eq_false hyx
        go_wp2_with (go_at_fn 34; refine K.out.mono ?_; rintro e w' ⟨rfl, q', rfl⟩)
        go_roundw
        case rel =>
          exact ⟨⟨_, rfl⟩, lo, (lo + hi) / 2, rfl, by go_num, by omega, by omega, I1.out, fun t ht htn => Int.not_lt.1 fun h => by have := M.out ((lo + hi) / 2) t ht htn h; rw [Y.out] at this; omega⟩
        case measure => simp [intOf]; omega
    · obtain rfl : hi = lo := by omega
      by_cases hn : hi < m
      · have cl := HC.out hi hn
        have K := hid (HH.out q hi hn)
        obtain ⟨y, hy⟩ : ∃ y, f hi = y := ⟨_, rfl⟩
        rw [hy] at K
        have Y := hid hy
        clear hy
        go_wp2_with (go_at_fn 34; refine K.out.mono ?_; rintro e w' ⟨rfl, q', rfl⟩)
        go_ret2
        exact ⟨hi, y == 0, rfl, hin, I1.out, I2.out, by rw [Y.out]; simp [hn], _, rfl⟩
      · go_wp2
        go_ret2
        exact ⟨hi, false, rfl, hin, I1.out, I2.out, by simp; omega, _, rfl⟩

def rowAt (rows : List (List Int)) (u : Nat) : List Int := rows.getD u []
theorem rowAt_some {rows : List (List Int)} {u : Nat} (h : u < rows.length) : rows[u]? = some (rowAt rows u) := by simp [rowAt, List.getElem?_eq_getElem h]
theorem cmpI_neg {x y : Int} : cmpI x y < 0 ↔ x < y := by
  unfold cmpI
  by_cases a : x < y
  · simp [a]
  · by_cases b : y < x <;> simp [a, b]
theorem cmpI_zero {x y : Int} : cmpI x y = 0 ↔ x = y := by
  unfold cmpI
  by_cases a : x < y
  · simp [a]; omega
  · by_cases b : y < x
    · simp [a, b]; omega
    · simp [a, b]; omega

/-- The search over places of the plan. -/
theorem searchPlan (p : Pl) (rows : List (List Int)) (d a m cap bp bd : Nat) (tgt : Int) (W : World) (P : PlanAt W p rows) (ha : a + m ≤ rows.length) (hd : d ≤ 1024)
    (h1 : W.cell? ⟨bp, 0, none⟩ = some (.pointer (some ⟨p.gP, 0, none⟩))) (h2 : W.cell? ⟨bd, 0, none⟩ = some (.int .i64 d))
    (mono : ∀ u v, a ≤ u → u ≤ v → v < a + m → rid (rowAt rows u) d ≤ rid (rowAt rows v) d) :
    Calls Yba.prog 36 #[.slice (some ⟨p.gI, a, none⟩) m cap, .int .i64 tgt, .func (.func 34) #[] #[.pointer (some ⟨bp, 0, none⟩), .pointer (some ⟨bd, 0, none⟩)]] W fun e w' =>
      ∃ (i : Nat) (b : Bool), e = .returned (.tuple #[.int .i64 i, .bool b]) ∧ i ≤ m ∧ (∀ u, a ≤ u → u < a + i → rid (rowAt rows u) d < tgt) ∧ (∀ u, a + i ≤ u → u < a + m → tgt ≤ rid (rowAt rows u) d) ∧ (b = true ↔ i < m ∧ rid (rowAt rows (a + i)) d = tgt) ∧ ∃ q, w' = W.drewN q := by
  have C : ∀ q x, (W.drewN q).cell? x = W.cell? x := fun q x => by
    obtain ⟨b, o, z⟩ := x
    simp [World.cell?]
  refine (search_any p.gI a m cap bp bd tgt (fun i => cmpI (rid (rowAt rows (a + i)) d) tgt) W (by have := P.bound.1; omega) (fun i hi => P.idx (a + i) (by omega)) (fun q i hi => ?_) ?_).mono ?_
  · refine (atC_any p rows (a + i) d bp bd (rowAt rows (a + i)) tgt (W.drewN q) (P.drewN q) (rowAt_some (by omega)) hd (by rw [C]; exact h1) (by rw [C]; exact h2)).mono ?_
    rintro e w' ⟨rfl, q', rfl⟩
    exact ⟨rfl, q + q', drewN_two W q q'⟩
  · intro i j hij hj h
    have h' := cmpI_neg.1 h
    have := mono (a + i) (a + j) (by omega) (by omega) (by omega)
    exact cmpI_neg.2 (by omega)
  · rintro e w' ⟨i, b, rfl, hi, l1, l2, hb, q, rfl⟩
    refine ⟨i, b, rfl, hi, fun u u1 u2 => ?_, fun u u1 u2 => ?_, ?_, q, rfl⟩
    · have := cmpI_neg.1 (l1 (u - a) (by omega))
      rwa [show a + (u - a) = u by omega] at this
    · have h := l2 (u - a) (by omega) (by omega)
      rw [show a + (u - a) = u by omega] at h
      exact Int.not_lt.1 fun h' => by have := cmpI_neg.2 h'; omega
    · rw [hb]
      exact and_congr Iff.rfl cmpI_zero

set_option maxHeartbeats 4000000 in
/-- (*plan).within. -/
theorem within_any (p : Pl) (rows : List (List Int)) (a b d : Nat) (id : Int) (w : World) (P : PlanAt w p rows) (hu : p.under rows.length w.heap.size) (hab : a < b) (hb : b ≤ rows.length) (hd : d ≤ 1024) (h0 : 0 ≤ id) (h3 : id < 3)
    (mono : ∀ u v, a ≤ u → u ≤ v → v < b → rid (rowAt rows u) d ≤ rid (rowAt rows v) d) :
    Calls Yba.prog 19 #[.pointer (some ⟨p.gP, 0, none⟩), .int .i64 a, .int .i64 b, .int .i64 d, .int .u32 id] w fun e w' => ∃ x y : Nat, e = .returned (.tuple #[.int .i64 x, .int .i64 y]) ∧ a ≤ x ∧ x ≤ y ∧ y ≤ b ∧ (∀ u, a ≤ u → u < b → (rid (rowAt rows u) d = id ↔ x ≤ u ∧ u < y)) ∧ Below w.heap.size w w' := by
  have cP := P.byRest
  have hlen := P.bound.1
  have u1 := hu.1
  have u4 := hu.2.2.2.1
  obtain ⟨W2, hW2⟩ : ∃ W2, W2 = (w.alloc (Obj.cells #[Value.pointer (some { block := p.gP, off := 0 })] 84)).alloc (Obj.cells #[Value.int IntKind.i64 ↑d] 3) := ⟨_, rfl⟩
  have B2 : Below w.heap.size w W2 := hW2 ▸ ((Below.refl _ w).alloc (Nat.le_refl _) _).alloc (by simp) _
  have P2 := P.below B2 hu
  have b1 : W2.cell? ⟨w.heap.size, 0, none⟩ = some (.pointer (some ⟨p.gP, 0, none⟩)) := by rw [hW2]; simp
  have b2 : W2.cell? ⟨w.heap.size + 1, 0, none⟩ = some (.int .i64 d) := by rw [hW2]; simp
  have K := hid (fun q => searchPlan p rows d a (b - a) (rows.length - a) w.heap.size (w.heap.size + 1) id (W2.drewN q) (P2.drewN q) (by omega) hd (by simpa using b1) (by simpa using b2) (fun u v x y z => mono u v x y (by omega)))
  have K' := hid (fun q i (hi : i < b - a) => searchPlan p rows d (a + i) (b - a - i) (rows.length - a - i) w.heap.size (w.heap.size + 1) (id + 1) (W2.drewN q) (P2.drewN q) (by omega) hd (by simpa using b1) (by simpa using b2) (fun u v x y z => mono u v (by omega) y (by omega)))
  have BB := hid B2
  have MM := hid mono
  clear P P2 b1 b2 hu B2 mono
  go_enter Yba.func19, Yba.ntmps19
  go_wp2_with fail
  rw [← hW2]
  clear hW2
  refine (K.out 0).mono ?_
  rintro e w' ⟨i, bb, rfl, hi, l1, l2, hbb, q, rfl⟩
  have L1 := hid l1
  have L2 := hid l2
  have HB := hid hbb
  clear l1 l2 hbb K
  rw [drewN_two, Nat.zero_add]
  cases bb with
  | false =>
    go_wp2
    go_ret2
    refine ⟨a + i, a + i, by first | rfl | (congr 1), by omega, Nat.le_refl _, by omega, fun u x y => ⟨fun h => ?_, fun h => by omega⟩, below_drewN BB.out _⟩
    exfalso
    have z1 : a + i ≤ u := Nat.not_lt.1 fun h' => by have := L1.out u x h'; omega
    have z2 := L2.out (a + i) (Nat.le_refl _) (by omega)
    have z3 := MM.out (a + i) u (by omega) z1 y
    have := HB.out.2 ⟨by omega, by omega⟩
    cases this
  | true =>
    obtain ⟨hlt, heq⟩ := HB.out.1 rfl
    have HE := hid heq
    clear heq
    go_wp2_with fail
    refine (K'.out q i hlt).mono ?_
    rintro e w' ⟨j, bb, rfl, hj, l1, l2, _, q', rfl⟩
    have L3 := hid l1
    have L4 := hid l2
    clear l1 l2 K'
    rw [drewN_two]
    go_wp2
    go_ret2
    refine ⟨a + i, a + i + j, by first | rfl | (congr 1), by omega, by omega, by omega, fun u x y => ⟨fun h => ⟨?_, ?_⟩, fun h => ?_⟩, below_drewN BB.out _⟩
    · exact Nat.not_lt.1 fun h' => by have := L1.out u x h'; omega
    · exact Nat.not_le.1 fun h' => by have := L4.out u h' (by omega); omega
    · have z1 := L2.out u h.1 (by omega)
      have z2 := L3.out u h.1 h.2
      omega
end Go.Proofs.Ybulkcwnq
