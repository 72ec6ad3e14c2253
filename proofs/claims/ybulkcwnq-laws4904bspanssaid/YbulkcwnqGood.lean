import Derived.Test.YbulkcwnqHeap
namespace Go.Proofs.Ybulkcwnq
open Go.RowKit Go.Lib

/-- The place u lies in the span s. -/
def Sp.has (s : Sp) (u : Nat) : Bool := decide (s.a ≤ u ∧ (u : Int) < s.b)
/-- A span that says what it must of its places. -/
structure SpanOK (ls : List (Int × Int)) (k : Nat) (rows : List (List Int)) (f : Nat → Int) (C : Nat → Prop) (s : Sp) : Prop where
  say : ∃ x y J : Nat, s.a = x ∧ s.b = y ∧ s.ahead = J ∧ x < y ∧ y ≤ rows.length ∧ s.key = rmin f x (y - x) ∧ s.key ≠ NV ∧ ∀ u, x ≤ u → u < y → C u ∧ AheadIs ls k (rowAt rows u) J
/-- The spans L hold the places C. -/
structure Good (ls : List (Int × Int)) (k : Nat) (rows : List (List Int)) (f : Nat → Int) (L : List Sp) (C : Nat → Prop) : Prop where
  each : ∀ s ∈ L, SpanOK ls k rows f C s
  once : ∀ u, L.countP (fun s => s.has u) ≤ 1
  all : ∀ u, u < rows.length → C u → f u ≠ NV → L.countP (fun s => s.has u) = 1

theorem Good.perm {ls : List (Int × Int)} {k : Nat} {rows : List (List Int)} {f : Nat → Int} {L L' : List Sp} {C : Nat → Prop} (h : Good ls k rows f L C) (p : L'.Perm L) : Good ls k rows f L' C :=
  ⟨fun s hs => h.each s (p.mem_iff.1 hs), fun u => by rw [p.countP_eq]; exact h.once u, fun u h1 h2 h3 => by rw [p.countP_eq]; exact h.all u h1 h2 h3⟩
theorem Good.none_of {ls : List (Int × Int)} {k : Nat} {rows : List (List Int)} {f : Nat → Int} {L : List Sp} {C : Nat → Prop} (h : Good ls k rows f L C) {u : Nat} (hu : ¬ C u) : L.countP (fun s => s.has u) = 0 := by
  rw [List.countP_eq_zero]
  intro s hs
  obtain ⟨x, y, J, e1, e2, e3, h1, h2, h3, h4, h5⟩ := (h.each s hs).say
  simp only [Sp.has, e1, e2]
  intro h'
  have := of_decide_eq_true h'
  exact hu (h5 u (by omega) (by omega)).1
theorem rmin_le_at (f : Nat → Int) (a k u : Nat) (h1 : a ≤ u) (h2 : u < a + k) : rmin f a k ≤ f u := by
  induction k generalizing a with
  | zero => omega
  | succ k ih =>
    show min (f a) (rmin f (a + 1) k) ≤ f u
    by_cases h : u = a
    · subst h; omega
    · have := ih (a + 1) (by omega) (by omega); omega
theorem Good.skip {ls : List (Int × Int)} {k : Nat} {rows : List (List Int)} {f : Nat → Int} {L : List Sp} {C : Nat → Prop} (h : Good ls k rows f L C) {x y : Nat} (hk : rmin f x (y - x) = NV) (hf : ∀ u, u < rows.length → f u ≤ NV) : Good ls k rows f L (fun u => C u ∨ (x ≤ u ∧ u < y)) := by
  refine ⟨fun s hs => ?_, h.once, fun u h1 h2 h3 => ?_⟩
  · obtain ⟨x, y, J, e1, e2, e3, g1, g2, g3, g4, g5⟩ := (h.each s hs).say
    exact ⟨x, y, J, e1, e2, e3, g1, g2, g3, g4, fun u i1 i2 => ⟨Or.inl (g5 u i1 i2).1, (g5 u i1 i2).2⟩⟩
  · rcases h2 with h2 | h2
    · exact h.all u h1 h2 h3
    · have := rmin_le_at f x (y - x) u (by omega) (by omega)
      have := hf u h1
      omega
theorem Good.put {ls : List (Int × Int)} {k : Nat} {rows : List (List Int)} {f : Nat → Int} {L : List Sp} {C : Nat → Prop} (h : Good ls k rows f L C) {x y J : Nat} {key : Int} (hk : rmin f x (y - x) = key) (hn : key ≠ NV) (hy : y ≤ rows.length) (hC : ∀ u, x ≤ u → u < y → ¬ C u) (hJ : ∀ u, x ≤ u → u < y → AheadIs ls k (rowAt rows u) J) : Good ls k rows f (L ++ [⟨J, key, x, y⟩]) (fun u => C u ∨ (x ≤ u ∧ u < y)) := by
  have hxy : x < y := Nat.not_le.1 fun hle => by
    rw [show y - x = 0 by omega] at hk
    exact hn hk.symm
  have cnt : ∀ u, (L ++ [(⟨J, key, x, y⟩ : Sp)]).countP (fun s => s.has u) = L.countP (fun s => s.has u) + if x ≤ u ∧ u < y then 1 else 0 := fun u => by
    rw [List.countP_append]
    congr 1
    rw [List.countP_singleton]
    unfold Sp.has
    by_cases g : x ≤ u ∧ u < y
    · rw [if_pos g, if_pos (decide_eq_true (by simp only; omega))]
    · rw [if_neg g, if_neg (by simp only [decide_eq_true_eq]; omega)]
  refine ⟨fun s hs => ?_, fun u => ?_, fun u h1 h2 h3 => ?_⟩
  · rcases List.mem_append.1 hs with hs | hs
    · obtain ⟨x, y, J, e1, e2, e3, g1, g2, g3, g4, g5⟩ := (h.each s hs).say
      exact ⟨x, y, J, e1, e2, e3, g1, g2, g3, g4, fun u i1 i2 => ⟨Or.inl (g5 u i1 i2).1, (g5 u i1 i2).2⟩⟩
    · obtain rfl := List.mem_singleton.1 hs
      exact ⟨x, y, J, rfl, rfl, rfl, hxy, hy, hk.symm, hn, fun u i1 i2 => ⟨Or.inr ⟨i1, i2⟩, hJ u i1 i2⟩⟩
  · rw [cnt]
    by_cases g : x ≤ u ∧ u < y
    · rw [if_pos g, h.none_of (hC u g.1 g.2)]; exact Nat.le_refl _
    · rw [if_neg g]; exact h.once u
  · rw [cnt]
    by_cases g : x ≤ u ∧ u < y
    · rw [if_pos g, h.none_of (hC u g.1 g.2)]
    · rw [if_neg g]
      rcases h2 with h2 | h2
      · exact h.all u h1 h2 h3
      · exact absurd h2 g
theorem Good.weak {ls : List (Int × Int)} {k : Nat} {rows : List (List Int)} {f : Nat → Int} {L : List Sp} {C D : Nat → Prop} (h : Good ls k rows f L C) (hCD : ∀ u, u < rows.length → (C u ↔ D u)) : Good ls k rows f L D := by
  refine ⟨fun s hs => ?_, h.once, fun u h1 h2 h3 => h.all u h1 ((hCD u h1).2 h2) h3⟩
  obtain ⟨x, y, J, e1, e2, e3, g1, g2, g3, g4, g5⟩ := (h.each s hs).say
  exact ⟨x, y, J, e1, e2, e3, g1, g2, g3, g4, fun u i1 i2 => ⟨(hCD u (by omega)).1 (g5 u i1 i2).1, (g5 u i1 i2).2⟩⟩
theorem Good.none (ls : List (Int × Int)) (k : Nat) (rows : List (List Int)) (f : Nat → Int) : Good ls k rows f [] (fun _ => False) :=
  ⟨fun s hs => absurd hs List.not_mem_nil, fun u => by simp, fun u _ h => h.elim⟩

/-- Sorted rows with one beginning of d ids: their d-th ids go up. -/
theorem lex_mono (d : Nat) (r r' : List Int) (h : lexC r r' ≤ 0) (hpos : ∀ v ∈ r', 0 ≤ v) (hl : d ≤ r.length) (hl' : d ≤ r'.length) (he : ∀ j, j < d → rid r j = rid r' j) : rid r d ≤ rid r' d := by
  induction d generalizing r r' with
  | zero =>
    cases r with
    | nil =>
      cases r' with
      | nil => exact Int.le_refl _
      | cons y ys => have := hpos y List.mem_cons_self; show (-1 : Int) ≤ y; omega
    | cons x xs =>
      cases r' with
      | nil => simp [lexC] at h
      | cons y ys =>
        show x ≤ y
        simp only [lexC] at h
        split at h
        · omega
        · split at h
          · omega
          · omega
  | succ d ih =>
    cases r with
    | nil => simp at hl
    | cons x xs =>
      cases r' with
      | nil => simp at hl'
      | cons y ys =>
        have e0 : x = y := he 0 (by omega)
        subst e0
        have h' : lexC xs ys ≤ 0 := by simpa [lexC] using h
        exact ih xs ys h' (fun v hv => hpos v (List.mem_cons_of_mem _ hv)) (by simpa using hl) (by simpa using hl') (fun j hj => he (j + 1) (by omega))

/-- The rows lie in order. -/
def RowsUp (rows : List (List Int)) : Prop := ∀ u v, u < v → v < rows.length → lexC (rowAt rows u) (rowAt rows v) ≤ 0
theorem ok_mono {ls : List (Int × Int)} {k d a b : Nat} {rows : List (List Int)} (h : RowsUp rows) (hpos : ∀ u, u < rows.length → ∀ v ∈ rowAt rows u, 0 ≤ v) (hb : b ≤ rows.length) (hok : ∀ u, a ≤ u → u < b → ∀ j, j < d → okAt ls k (rowAt rows u) j) :
    ∀ u v, a ≤ u → u ≤ v → v < b → rid (rowAt rows u) d ≤ rid (rowAt rows v) d := by
  intro u v h1 h2 h3
  by_cases e : u = v
  · subst e; exact Int.le_refl _
  · have L : ∀ u, a ≤ u → u < b → d ≤ (rowAt rows u).length := fun u i1 i2 => by
      by_cases hd : d = 0
      · omega
      · have := (hok u i1 i2 (d - 1) (by omega)).2.2.1; omega
    exact lex_mono d _ _ (h u v (by omega) (by omega)) (hpos v (by omega)) (L u h1 (by omega)) (L v (by omega) h3) (fun j hj => by rw [(hok u h1 (by omega) j hj).2.2.2.1, (hok v (by omega) h3 j hj).2.2.2.1])
theorem rid_pos_lt {r : List Int} {d : Nat} (h : 0 ≤ rid r d) : d < r.length := Nat.not_le.1 fun hl => by rw [rid_none hl] at h; omega
end Go.Proofs.Ybulkcwnq
