import Derived.Test.YbulkcwnqPlan
namespace Go.Proofs.Ybulkcwnq
open Go.RowKit

theorem wrap64s (n : Int) (h0 : -9223372036854775808 ≤ n) (h1 : n < 9223372036854775808) : IntKind.i64.wrap n = n := by
  rw [IntKind.wrap_i64]; omega
theorem drewN_two (w : World) (a b : Nat) : (w.drewN a).drewN b = w.drewN (a + b) := by
  induction b with
  | zero => rfl
  | succ b ih => show ((w.drewN a).drewN b).drew = (w.drewN (a + b)).drew; rw [ih]
/-- A span. -/
structure Sp where
  ahead : Int
  key : Int
  a : Int
  b : Int
def Sp.v (s : Sp) : Value := .agg #[.int .i64 s.ahead, .int .i64 s.key, .int .i64 s.a, .int .i64 s.b]
def Sp.before (s o : Sp) : Bool := decide (s.ahead > o.ahead ∨ (s.ahead = o.ahead ∧ s.key < o.key))

/-- The lines: number and id. -/
structure LinesAt (w : World) (gL : Nat) (ls : List (Int × Int)) : Prop where
  line : ∀ (j : Nat) (l : Int × Int), ls[j]? = some l → w.cell? ⟨gL, j * 4, none⟩ = some (.int .i64 l.1)
  id : ∀ (j : Nat) (l : Int × Int), ls[j]? = some l → w.cell? ⟨gL, j * 4 + 1, none⟩ = some (.int .u32 l.2)
  slot : ∀ (j : Nat) (l : Int × Int), ls[j]? = some l → w.cell? ⟨gL, j * 4 + 2, none⟩ = some (.int .i64 0)
  bound : ls.length ≤ 2049 ∧ ∀ (j : Nat) (l : Int × Int), ls[j]? = some l → 0 ≤ l.1 ∧ l.1 ≤ 2 * j ∧ 0 ≤ l.2 ∧ l.2 < 3
theorem LinesAt.below {w w' : World} {gL B : Nat} {ls : List (Int × Int)} (h : LinesAt w gL ls) (hb : Below B w w') (hg : gL < B) : LinesAt w' gL ls := by
  have C : ∀ o, w'.cell? ⟨gL, o, none⟩ = w.cell? ⟨gL, o, none⟩ := fun o => hb.cell (p := ⟨gL, o, none⟩) hg
  exact ⟨fun j l e => by rw [C]; exact h.line j l e, fun j l e => by rw [C]; exact h.id j l e, fun j l e => by rw [C]; exact h.slot j l e, h.bound⟩

def lineAt (ls : List (Int × Int)) (i : Nat) : Int := (ls.getD i (0, 0)).1
def idAt (ls : List (Int × Int)) (i : Nat) : Int := (ls.getD i (0, 0)).2
theorem lineAt_some {ls : List (Int × Int)} {i : Nat} {l : Int × Int} (h : ls[i]? = some l) : lineAt ls i = l.1 := by simp [lineAt, h]
theorem idAt_some {ls : List (Int × Int)} {i : Nat} {l : Int × Int} (h : ls[i]? = some l) : idAt ls i = l.2 := by simp [idAt, h]
/-- The j-th of the lines from the k-th on matches the rest r. -/
def okAt (ls : List (Int × Int)) (k : Nat) (r : List Int) (j : Nat) : Prop :=
  j < 256 ∧ k + j < ls.length ∧ j < r.length ∧ rid r j = idAt ls (k + j) ∧ (j = 0 ∨ lineAt ls (k + j) = lineAt ls (k + j - 1) + 1)
/-- The model's bound is J. -/
def AheadIs (ls : List (Int × Int)) (k : Nat) (r : List Int) (J : Nat) : Prop := (∀ j, j < J → okAt ls k r j) ∧ ¬ okAt ls k r J
theorem AheadIs.unique {ls : List (Int × Int)} {k : Nat} {r : List Int} {I J : Nat} (h : AheadIs ls k r I) (h' : AheadIs ls k r J) : I = J := by
  rcases Nat.lt_trichotomy I J with a | a | a
  · exact absurd (h'.1 I a) h.2
  · exact a
  · exact absurd (h.1 J a) h'.2

set_option maxHeartbeats 1000000 in
/-- (span).before. -/
theorem before_any (s o : Sp) (w : World) : Calls Yba.prog 12 #[s.v, o.v] w fun e w' => e = .returned (.bool (s.before o)) ∧ Below w.heap.size w w' := by
  obtain ⟨sa, sk, s1, s2⟩ := s
  obtain ⟨oa, ok, o1, o2⟩ := o
  simp only [Sp.v, Sp.before]
  rcases Int.lt_trichotomy sa oa with hl | he | hg
  · rw [show decide (sa > oa ∨ sa = oa ∧ sk < ok) = false from decide_eq_false (by omega)]
    have hn : ¬ oa < sa := by omega
    have he : (sa == oa) = false := by simp; omega
    go_enter Yba.func12, Yba.ntmps12
    go_wp2
    go_ret
    exact ⟨rfl, (((Below.refl _ w).alloc (Nat.le_refl _) _).alloc (by simp) _)⟩
  · subst he
    by_cases hk : sk < ok
    · rw [show decide (sa > sa ∨ sa = sa ∧ sk < ok) = true from decide_eq_true (by omega)]
      go_enter Yba.func12, Yba.ntmps12
      go_wp2
      go_ret
      exact ⟨rfl, (((Below.refl _ w).alloc (Nat.le_refl _) _).alloc (by simp) _)⟩
    · rw [show decide (sa > sa ∨ sa = sa ∧ sk < ok) = false from decide_eq_false (by omega)]
      go_enter Yba.func12, Yba.ntmps12
      go_wp2
      go_ret
      exact ⟨rfl, (((Below.refl _ w).alloc (Nat.le_refl _) _).alloc (by simp) _)⟩
  · rw [show decide (sa > oa ∨ sa = oa ∧ sk < ok) = true from decide_eq_true (by omega)]
    go_enter Yba.func12, Yba.ntmps12
    go_wp2
    go_ret
    exact ⟨rfl, (((Below.refl _ w).alloc (Nat.le_refl _) _).alloc (by simp) _)⟩

set_option maxRecDepth 20000 in
set_option maxHeartbeats 2000000 in
/-- The model. -/
theorem ahead_any (gr cr gL cL k : Nat) (r : List Int) (ls : List (Int × Int)) (w : World) (hr : ∀ i v, r[i]? = some v → w.cell? ⟨gr, i, none⟩ = some (.int .u32 v)) (L : LinesAt w gL ls) (hk : k < ls.length) :
    Calls Yba.prog 11 #[.slice (some ⟨gr, 0, none⟩) r.length cr, .slice (some ⟨gL, 0, none⟩) ls.length cL, .int .i64 k] w fun e w' => ∃ J : Nat, e = .returned (.int .i64 J) ∧ AheadIs ls k r J ∧ ∃ q, w' = w.drewN q := by
  have LL := hid L
  have HR := hid hr
  have b1 := L.bound.1
  clear L hr
  go_enter Yba.func11, Yba.ntmps11
  go_wp2
  go_loopw [7] (fun x wr => (∃ q, wr = w.drewN q) ∧ ∃ j : Nat, x = .int .i64 j ∧ j ≤ 256 ∧ ∀ i, i < j → okAt ls k r i) (fun x _ => 256 - (intOf x).toNat)
  case atStart => exact ⟨⟨0, rfl⟩, 0, rfl, by omega, fun i hi => absurd hi (Nat.not_lt_zero _)⟩
  case round =>
    obtain ⟨⟨q, rfl⟩, j, rfl, hj, hall⟩ := hrel
    have HA := hid hall
    clear hall
    by_cases h1 : j < 256
    · have i1 : decide ((j : Int) < 256) = true := decide_eq_true (by omega)
      by_cases h2 : k + j < ls.length
      · have i2 : decide ((k : Int) + (j : Int) < (ls.length : Int)) = true := decide_eq_true (by omega)
        by_cases h3 : j < r.length
        · have i3 : decide ((j : Int) < (r.length : Int)) = true := decide_eq_true (by omega)
          obtain ⟨v, hv⟩ := get_of_lt h3
          obtain ⟨l, hl⟩ := get_of_lt h2
          have c1 := HR.out j v hv
          have c2 := LL.out.id (k + j) l hl
          have c3 := LL.out.line (k + j) l hl
          have w1 : IntKind.i64.wrap ((k : Int) + (j : Int)) = (k : Int) + (j : Int) := wrap64s _ (by omega) (by omega)
          have c76 : Yba.prog.cellsOf 76 = 4 := by kernel_rfl
          have x0 : (0 : Int) ≤ (k : Int) + (j : Int) := by omega
          have x1 : (k : Int) + (j : Int) < (ls.length : Int) := by omega
          have x2 : ((k : Int) + (j : Int)).toNat = k + j := by omega
          have e1 := rid_some hv
          have e2 := idAt_some hl
          have e3 := lineAt_some hl
          by_cases h4 : v = l.2
          · have i4 : (v == l.2) = true := by simpa using h4
            by_cases h5 : j = 0
            · have OK : Hid (okAt ls k r j) := ⟨h1, h2, h3, by rw [e1, e2, h4], Or.inl h5⟩
              clear e1 e2 e3 hv hl
              have h5' : ((j : Int) == 0) = true := by simp; omega
              have H5 := hid h5
              clear h5
              go_wp2
              go_quiet (fail)
              go_wp2
              go_roundw
              case rel => exact ⟨⟨_, rfl⟩, j + 1, by go_num, by omega, fun i hi => by
                have h5 := H5.out
                obtain rfl : i = j := by omega
                exact OK.out⟩
              case measure => simp [intOf]; omega
            · obtain ⟨m, hm⟩ := get_of_lt (show k + j - 1 < ls.length by omega)
              have c4 := LL.out.line (k + j - 1) m hm
              have e4 := lineAt_some hm
              have w2 : IntKind.i64.wrap ((k : Int) + (j : Int) - 1) = (k : Int) + (j : Int) - 1 := wrap64s _ (by omega) (by omega)
              have y0 : (0 : Int) ≤ (k : Int) + (j : Int) - 1 := by omega
              have y1 : (k : Int) + (j : Int) - 1 < (ls.length : Int) := by omega
              have y2 : ((k : Int) + (j : Int) - 1).toNat = k + j - 1 := by omega
              have w3 : IntKind.i64.wrap (m.1 + 1) = m.1 + 1 := by have := LL.out.bound.2 _ _ hm; exact wrap64s _ (by omega) (by omega)
              have h5' : ((j : Int) == 0) = false := by simp; omega
              by_cases h6 : l.1 = m.1 + 1
              · have i6 : (l.1 == m.1 + 1) = true := by simpa using h6
                have OK : Hid (okAt ls k r j) := ⟨h1, h2, h3, by rw [e1, e2, h4], Or.inr (by rw [e3, e4, h6])⟩
                clear e1 e2 e3 e4 hv hl hm
                go_wp2
                go_quiet (fail)
                go_wp2
                go_roundw
                case rel => exact ⟨⟨_, rfl⟩, j + 1, by go_num, by omega, fun i hi => by
                  rcases Nat.lt_succ_iff_lt_or_eq.1 hi with h | h
                  · exact HA.out i h
                  · exact h ▸ OK.out⟩
                case measure => simp [intOf]; omega
              · have i6 : (l.1 == m.1 + 1) = false := by simpa using h6
                have NO : Hid (¬ okAt ls k r j) := fun h => by
                  rcases h.2.2.2.2 with h | h
                  · exact h5 h
                  · rw [e3, e4] at h; exact h6 h
                clear e1 e2 e3 e4 hv hl hm
                go_wp2
                go_quiet (fail)
                go_wp2
                go_ret
                exact ⟨j, rfl, ⟨HA.out, NO.out⟩, _, drewN_two w _ _⟩
          · have i4 : (v == l.2) = false := by simpa using h4
            have NO : Hid (¬ okAt ls k r j) := fun h => by
              have h' := h.2.2.2.1
              rw [e1, e2] at h'; exact h4 h'
            clear e1 e2 e3 hv hl
            go_wp2
            go_quiet (fail)
            go_wp2
            go_ret
            exact ⟨j, rfl, ⟨HA.out, NO.out⟩, _, drewN_two w _ _⟩
        · have NO : Hid (¬ okAt ls k r j) := fun h => h3 h.2.2.1
          have i3 : decide ((j : Int) < (r.length : Int)) = false := decide_eq_false (by omega)
          go_wp2
          go_quiet (fail)
          go_wp2
          go_ret
          exact ⟨j, rfl, ⟨HA.out, NO.out⟩, _, drewN_two w _ _⟩
      · have NO : Hid (¬ okAt ls k r j) := fun h => h2 h.2.1
        have i2 : decide ((k : Int) + (j : Int) < (ls.length : Int)) = false := decide_eq_false (by omega)
        go_wp2
        go_quiet (fail)
        go_wp2
        go_ret
        exact ⟨j, rfl, ⟨HA.out, NO.out⟩, _, drewN_two w _ _⟩
    · have NO : Hid (¬ okAt ls k r j) := fun h => h1 h.1
      have i1 : decide ((j : Int) < 256) = false := decide_eq_false (by omega)
      go_wp2
      go_quiet (fail)
      go_wp2
      go_ret
      exact ⟨j, rfl, ⟨HA.out, NO.out⟩, _, drewN_two w _ _⟩
end Go.Proofs.Ybulkcwnq
