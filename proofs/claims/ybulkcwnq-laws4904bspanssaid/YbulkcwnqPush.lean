import Derived.Test.YbulkcwnqHeap
import Derived.Deep.AppendLies
import Derived.Deep.DrawnRows
namespace Go.Proofs.Ybulkcwnq
open Go.RowKit Go.Lib
attribute [local go_sem ↓] Go.wp_at_zero Go.wp_at_succ

/-- Where the step's things lie. -/
structure Sc where
  p : Pl
  gK : Nat
  gSh : Nat
  gT : Nat
  gN : Nat
  cN : Nat
  gFr : Nat
  gWk : Nat
  gL : Nat
  cL : Nat

/-- What lies below the walker's block, and does not turn. -/
structure SceneAt (w : World) (s : Sc) (rows : List (List Int)) (nodes : List Int) (ls : List (Int × Int)) : Prop where
  plan : PlanAt w s.p rows
  under : s.p.under rows.length s.gK
  low : s.gSh < s.gK ∧ s.gT < s.gK ∧ s.gN < s.gK ∧ s.gFr < s.gK ∧ s.gWk < s.gK ∧ s.gL < s.gK
  sh0 : w.cell? ⟨s.gSh, 0, none⟩ = some (.pointer (some ⟨s.p.gP, 0, none⟩))
  sh10 : w.cell? ⟨s.gSh, 10, none⟩ = some (.pointer (some ⟨s.gT, 0, none⟩))
  tree : RowAt w s.gT 82 [.int .i64 rows.length, .slice (some ⟨s.gN, 0, none⟩) nodes.length s.cN]
  nd : RowAt w s.gN 3 (intsV nodes)
  ok : TreeOK nodes rows.length
  wk : w.cell? ⟨s.gWk, 0, none⟩ = some (.slice (some ⟨s.gL, 0, none⟩) ls.length s.cL)
  lines : LinesAt w s.gL ls
  fr : w.cell? ⟨s.gFr, 0, none⟩ = some (.int .i64 0)

theorem SceneAt.below {w w' : World} {s : Sc} {rows : List (List Int)} {nodes : List Int} {ls : List (Int × Int)} (h : SceneAt w s rows nodes ls) (hb : Below s.gK w w') : SceneAt w' s rows nodes ls := by
  obtain ⟨l1, l2, l3, l4, l5, l6⟩ := h.low
  have C : ∀ b o, b < s.gK → w'.cell? ⟨b, o, none⟩ = w.cell? ⟨b, o, none⟩ := fun b o h => hb.cell (p := ⟨b, o, none⟩) h
  exact ⟨h.plan.below hb h.under, h.under, h.low, by rw [C _ _ l1]; exact h.sh0, by rw [C _ _ l1]; exact h.sh10, h.tree.below hb l2, h.nd.below hb l3, h.ok, by rw [C _ _ l5]; exact h.wk, h.lines.below hb l6, by rw [C _ _ l4]; exact h.fr⟩

/-- The walker. -/
def WkAt (w : World) (s : Sc) (v : Value) : Prop :=
  RowAt w s.gK 111 [.pointer (some ⟨s.gWk, 0, none⟩), .pointer (some ⟨s.gSh, 0, none⟩), .slice none 0 0, .slice none 0 0, v, .slice (some ⟨s.gFr, 0, none⟩) 1 1, .int .i64 0, .bool true, .bool false, .int .i64 0]

def spC (x : Sp) : List Value := [.int .i64 x.ahead, .int .i64 x.key, .int .i64 x.a, .int .i64 x.b]
def spCells (L : List Sp) : List Value := L.flatMap spC
theorem spCells_length (L : List Sp) : (spCells L).length = L.length * 4 := by
  induction L with
  | nil => rfl
  | cons x L ih => simp [spCells, spC] at *; omega
theorem spCells_snoc (L : List Sp) (x : Sp) : spCells (L ++ [x]) = spCells L ++ spC x := by simp [spCells]
theorem spCells_get {L : List Sp} {i : Nat} (hi : i < L.length) (k : Nat) (hk : k < 4) : (spCells L)[i * 4 + k]? = (spC (spAt L i))[k]? := by
  induction L generalizing i with
  | nil => simp at hi
  | cons x L ih =>
    cases i with
    | zero => rw [show spCells (x :: L) = spC x ++ spCells L from rfl, List.getElem?_append_left (by simp [spC]; omega)]; simp [spAt]
    | succ i =>
      rw [show spCells (x :: L) = spC x ++ spCells L from rfl, List.getElem?_append_right (by simp [spC]; omega)]
      have := ih (i := i) (by simpa using hi)
      rw [show (i + 1) * 4 + k - (spC x).length = i * 4 + k by simp [spC]; omega, this]
      simp [spAt]

theorem ownsRow_below {w w' : World} {base e size n : Nat} {v : Value} {xs : List Value} (h : w.ownsRow base e size v n xs) {B : Nat} (hb : Below B w w') (hB : w.heap.size ≤ B) : w'.ownsRow base e size v n xs := by
  obtain ⟨h1, h2⟩ := h
  refine ⟨h1, ?_⟩
  rcases h2 with h2 | ⟨g, cap, cur, e1, e2, e3, e4⟩
  · exact Or.inl h2
  · exact Or.inr ⟨g, cap, cur, e1, e2, by rw [hb.block g (Nat.lt_of_lt_of_le (lt_of_block e3) hB)]; exact e3, e4⟩
theorem ownsRow_other {w : World} {base e size n : Nat} {v : Value} {xs : List Value} (h : w.ownsRow base e size v n xs) (p : Addr) (hp : p.block < base) (u : Value) : (w.setCell p u).ownsRow base e size v n xs := by
  obtain ⟨h1, h2⟩ := h
  refine ⟨h1, ?_⟩
  rcases h2 with h2 | ⟨g, cap, cur, e1, e2, e3, e4⟩
  · exact Or.inl h2
  · exact Or.inr ⟨g, cap, cur, e1, e2, by rw [Below.heap_setCell _ _ _ _ (by omega)]; exact e3, e4⟩
/-- The walker holds the spans L. -/
def HeldAt (w : World) (s : Sc) (v : Value) (L : List Sp) : Prop := WkAt w s v ∧ w.ownsRow (s.gK + 1) 114 4 v L.length (spCells L)

theorem held_cell {w : World} {s : Sc} {gg n cap : Nat} {M : List Sp} (h : HeldAt w s (.slice (some ⟨gg, 0, none⟩) n cap) M) {j o : Nat} (hj : j < M.length) (ho : o < 4) : w.cell? ⟨gg, j * 4 + o, none⟩ = (spC (spAt M j))[o]? ∧ w.frozen? ⟨gg, j * 4 + o, none⟩ = false := by
  obtain ⟨_, h1, h2⟩ := h
  rcases h2 with ⟨e, _⟩ | ⟨g, c', cur, e, g1, g2, g3, g4, g5, g6⟩
  · cases e
  · simp only [Value.slice.injEq, Option.some.injEq, Addr.mk.injEq] at e
    obtain ⟨⟨rfl, _⟩, rfl, rfl⟩ := e
    constructor
    · rw [← spCells_get hj o ho, ← g6, List.getElem?_take_of_lt (by omega)]
      simp [World.cell?, g2]
    · simp [World.frozen?, g2]
theorem spCells_set {M : List Sp} {j : Nat} (y : Sp) (hj : j < M.length) : spCells (M.set j y) = ((((spCells M).set (j * 4) (.int .i64 y.ahead)).set (j * 4 + 1) (.int .i64 y.key)).set (j * 4 + 2) (.int .i64 y.a)).set (j * 4 + 3) (.int .i64 y.b) := by
  induction M generalizing j with
  | nil => simp at hj
  | cons x M ih =>
    cases j with
    | zero => simp [spCells, spC]
    | succ j =>
      have := ih (j := j) (by simpa using hj)
      simp only [List.set_cons_succ]
      rw [show spCells (x :: M.set j y) = spC x ++ spCells (M.set j y) from rfl, this, show spCells (x :: M) = spC x ++ spCells M from rfl]
      simp only [spC, List.cons_append, List.nil_append, show (j + 1) * 4 = j * 4 + 1 + 1 + 1 + 1 by omega, show j * 4 + 1 + 1 + 1 + 1 + 1 = j * 4 + 1 + 1 + 1 + 1 + 1 from rfl, List.set_cons_succ, show j * 4 + 1 + 1 + 1 + 1 + 2 = (j * 4 + 2) + 1 + 1 + 1 + 1 by omega, show j * 4 + 1 + 1 + 1 + 1 + 3 = (j * 4 + 3) + 1 + 1 + 1 + 1 by omega]
theorem ownsRow_set {w : World} {base e size n m cap gg i : Nat} {xs : List Value} (h : w.ownsRow base e size (.slice (some ⟨gg, 0, none⟩) m cap) n xs) (u : Value) : (w.setCell ⟨gg, i, none⟩ u).ownsRow base e size (.slice (some ⟨gg, 0, none⟩) m cap) n (xs.set i u) := by
  obtain ⟨h1, h2⟩ := h
  refine ⟨by simpa using h1, ?_⟩
  rcases h2 with ⟨e1, _⟩ | ⟨g, c', cur, e1, g1, g2, g3, g4, g5, g6⟩
  · cases e1
  · have e1' := e1
    simp only [Value.slice.injEq, Option.some.injEq, Addr.mk.injEq] at e1'
    obtain ⟨⟨rfl, _⟩, _⟩ := e1'
    have hr : RowAt w gg e cur.toList := by unfold RowAt; simpa using g2
    have hr' := RowAt.set hr i u
    unfold RowAt at hr'
    refine Or.inr ⟨gg, c', (cur.toList.set i u).toArray, e1, g1, hr', g3, g4, by simpa using g5, ?_⟩
    rw [← g6]
    exact List.take_set
theorem held_put {w : World} {s : Sc} {gg n cap : Nat} {M : List Sp} (h : HeldAt w s (.slice (some ⟨gg, 0, none⟩) n cap) M) {j : Nat} (hj : j < M.length) (hg : s.gK < gg) (y : Sp) :
    HeldAt ((((w.setCell ⟨gg, j * 4, none⟩ (.int .i64 y.ahead)).setCell ⟨gg, j * 4 + 1, none⟩ (.int .i64 y.key)).setCell ⟨gg, j * 4 + 2, none⟩ (.int .i64 y.a)).setCell ⟨gg, j * 4 + 3, none⟩ (.int .i64 y.b)) s (.slice (some ⟨gg, 0, none⟩) n cap) (M.set j y) := by
  obtain ⟨h1, h2⟩ := h
  have hne : s.gK ≠ gg := by omega
  refine ⟨RowAt.other (RowAt.other (RowAt.other (RowAt.other h1 hne _) hne _) hne _) hne _, ?_⟩
  rw [spCells_set y hj, List.length_set]
  exact ownsRow_set (ownsRow_set (ownsRow_set (ownsRow_set h2 _) _) _) _
theorem Yba.info114 : (Yba.prog.info? 114).map (fun i => (i.zero, i.size, i.bytes)) = some (some (.agg #[.int .i64 0, .int .i64 0, .int .i64 0, .int .i64 0]), 4, 32) := by kernel_rfl

set_option maxHeartbeats 4000000 in
theorem push_none (s : Sc) (rows : List (List Int)) (nodes : List Int) (ls : List (Int × Int)) (v : Value) (L : List Sp) (x : Sp) (a b : Nat) (w : World) (S : SceneAt w s rows nodes ls) (H : HeldAt w s v L) (ha : x.a = a) (hb : x.b = b) (hab : a ≤ b) (hbr : b ≤ rows.length) (hk : rmin (nodeAt nodes) (rows.length + a) (b - a) = NV) :
    Calls Yba.prog 20 #[.pointer (some ⟨s.gK, 0, none⟩), x.v] w fun e w' => e = .returned (.tuple #[]) ∧ Below w.heap.size w w' := by
  obtain ⟨x1, x2, x3, x4⟩ := x
  simp only at ha hb
  subst ha hb
  simp only [Sp.v]
  have hgk : s.gK < w.heap.size := H.1.lt
  have w1 : w.cell? ⟨s.gK, 1, none⟩ = some (.pointer (some ⟨s.gSh, 0, none⟩)) := by rw [H.1.cell]; rfl
  have w2 := S.sh10
  have lo := S.low
  have l1 := lo.1
  have KL : Hid (∀ W, Below w.heap.size w W → Calls Yba.prog 21 #[.pointer (some ⟨s.gT, 0, none⟩), .int .i64 a, .int .i64 b] W fun e w' => e = .returned (.int .i64 9223372036854775807) ∧ ∃ q, w' = W.drewN q) := fun W hW => by
    have h := least_any s.gT s.gN s.cN rows.length a b nodes W (S.tree.below hW (by omega)) (S.nd.below hW (by omega)) S.ok hab hbr S.plan.bound.1
    rw [hk] at h
    exact h
  clear H S hk lo
  go_enter Yba.func20, Yba.ntmps20
  go_wp2_with fail
  go_region_held3 (fun wy => wy.cell? ⟨s.gK, 1, none⟩ = some (.pointer (some ⟨s.gSh, 0, none⟩)) ∧ wy.cell? ⟨s.gSh, 10, none⟩ = some (.pointer (some ⟨s.gT, 0, none⟩)) ∧ wy.cell? ⟨w.heap.size, 2, none⟩ = some (.int .i64 a) ∧ wy.cell? ⟨w.heap.size, 3, none⟩ = some (.int .i64 b)) (first | go_keep | (refine ⟨?_, ?_, ?_, ?_⟩ <;> (rw [World.cell?_setCell_other _ _ _ _ (by intro e'; simp only [Addr.mk.injEq] at e'; omega)]; simp [go_sem, *])))
    ((go_at_call 21; refine (KL.out _ ?_).mono ?_; (first | exact ((Below.refl _ w).alloc (Nat.le_refl _) _).drew | exact ((Below.refl _ w).alloc (Nat.le_refl _) _)); rintro e w' ⟨rfl, q, rfl⟩))
  all_goals
    go_wp2
    (try simp only [Exit.inBlock, Exit.then])
    refine bodyPost_ret (results_none rfl _ _ _) rfl ?_
    exact ⟨rfl, ((((Keep.refl [] w).alloc _).drewN _).setCell (Or.inr (Nat.le_refl _)) _).below (by simp) (Nat.le_refl _)⟩

set_option maxRecDepth 20000 in
set_option maxHeartbeats 8000000 in
theorem push_some (s : Sc) (rows : List (List Int)) (nodes : List Int) (ls : List (Int × Int)) (v : Value) (L : List Sp) (x1 x2 key : Int) (a b : Nat) (w : World) (S : SceneAt w s rows nodes ls) (H : HeldAt w s v L) (hab : a ≤ b) (hbr : b ≤ rows.length) (hk : rmin (nodeAt nodes) (rows.length + a) (b - a) = key) (hkn : key ≠ NV) (hL : L.length ≤ 1024) :
    Calls Yba.prog 20 #[.pointer (some ⟨s.gK, 0, none⟩), .agg #[.int .i64 x1, .int .i64 x2, .int .i64 a, .int .i64 b]] w fun e w' => e = .returned (.tuple #[]) ∧ Below s.gK w w' ∧ ∃ v' L', HeldAt w' s v' L' ∧ L'.Perm (L ++ [⟨x1, key, a, b⟩]) ∧ (HeapOK L → HeapOK L') := by
  have hgk : s.gK < w.heap.size := H.1.lt
  have w1 : w.cell? ⟨s.gK, 1, none⟩ = some (.pointer (some ⟨s.gSh, 0, none⟩)) := by rw [H.1.cell]; rfl
  have w2 := S.sh10
  have lo := S.low
  have l1 := lo.1
  have KL : Hid (∀ W, Below w.heap.size w W → Calls Yba.prog 21 #[.pointer (some ⟨s.gT, 0, none⟩), .int .i64 a, .int .i64 b] W fun e w' => e = .returned (.int .i64 key) ∧ ∃ q, w' = W.drewN q) := fun W hW => by
    have h := least_any s.gT s.gN s.cN rows.length a b nodes W (S.tree.below hW (by omega)) (S.nd.below hW (by omega)) S.ok hab hbr S.plan.bound.1
    rw [hk] at h
    exact h
  have SS := hid S
  have HH := hid H
  have hkn' : (key == 9223372036854775807) = false := by simpa [NV] using hkn
  clear H S hk lo hkn
  go_enter Yba.func20, Yba.ntmps20
  go_upto_region 3 with fail
  go_cut [3] (fun s3 wx => s3 = .pointer (some ⟨w.heap.size, 0, none⟩) ∧ Below w.heap.size w wx ∧ RowAt wx w.heap.size 114 [.int .i64 x1, .int .i64 key, .int .i64 a, .int .i64 b])
  case first =>
    go_region_held3 (fun wy => wy.cell? ⟨s.gK, 1, none⟩ = some (.pointer (some ⟨s.gSh, 0, none⟩)) ∧ wy.cell? ⟨s.gSh, 10, none⟩ = some (.pointer (some ⟨s.gT, 0, none⟩)) ∧ wy.cell? ⟨w.heap.size, 2, none⟩ = some (.int .i64 a) ∧ wy.cell? ⟨w.heap.size, 3, none⟩ = some (.int .i64 b)) (first | go_keep | (refine ⟨?_, ?_, ?_, ?_⟩ <;> (rw [World.cell?_setCell_other _ _ _ _ (by intro e'; simp only [Addr.mk.injEq] at e'; omega)]; simp [go_sem, *])))
      ((go_at_call 21; refine (KL.out _ ?_).mono ?_; (first | exact ((Below.refl _ w).alloc (Nat.le_refl _) _).drew | exact ((Below.refl _ w).alloc (Nat.le_refl _) _)); rintro e w' ⟨rfl, q, rfl⟩))
    all_goals
      go_wp2
      go_meet
      case rel =>
        exact ⟨rfl, ((((Keep.refl [] w).alloc _).drewN _).setCell (Or.inr (Nat.le_refl _)) _).below (by simp) (Nat.le_refl _), ((RowAt.new w 114 [.int .i64 x1, .int .i64 x2, .int .i64 a, .int .i64 b]).drewN _).set 1 (.int .i64 key)⟩
  case rest =>
    obtain ⟨rfl, hb1, hbox⟩ := hcut
    have B1 := hid hb1
    have hsz := hb1.size
    have hgk' : s.gK < wc.heap.size := by omega
    have hlt0 : w.heap.size < wc.heap.size := hbox.lt
    have hown := hid (ownsRow_below HH.out.2 hb1 (Nat.le_refl _))
    have hwk : WkAt wc s v := HH.out.1.below hb1 hgk
    have WK := hid hwk
    have k4 : wc.cell? ⟨s.gK, 4, none⟩ = some v := by rw [RowAt.cell hwk]; rfl
    have f4 : wc.frozen? ⟨s.gK, 4, none⟩ = false := RowAt.frozen hwk 4
    have q0 : wc.cell? ⟨w.heap.size, 0, none⟩ = some (.int .i64 x1) := by rw [hbox.cell]; rfl
    have q1 : wc.cell? ⟨w.heap.size, 1, none⟩ = some (.int .i64 key) := by rw [hbox.cell]; rfl
    have q2 : wc.cell? ⟨w.heap.size, 2, none⟩ = some (.int .i64 a) := by rw [hbox.cell]; rfl
    have q3 : wc.cell? ⟨w.heap.size, 3, none⟩ = some (.int .i64 b) := by rw [hbox.cell]; rfl
    have ne : v.ownBlock ≠ some s.gK := fun h => by
      rcases hown.out.2 with ⟨e, _⟩ | ⟨g, cap, cur, e, e2, _⟩
      · subst e; cases h
      · subst e; simp only [Value.ownBlock, Option.some.injEq] at h; omega
    obtain ⟨i0, hi0, hz0, hz1, hz2⟩ := info_parts Yba.info114
    clear hb1 hbox hwk KL
    go_upto_region 4 with fail
    go_cut [3] (fun _ wx => ∃ gg cap, HeldAt wx s (.slice (some ⟨gg, 0, none⟩) (L.length + 1) cap) (L ++ [⟨x1, key, a, b⟩]) ∧ Below s.gK w wx)
    case first =>
     go_region_law
      ((refine step_append_lies _ (by rfl) _ _ _ (by rfl) (s.gK + 1) 114 i0 _ 4 32 Yba.underlying109 hi0 hz0 hz1 hz2 rfl (by omega) v L.length (spCells L) (by rfl) (by first | exact (hown.out.alloc _).drew | exact hown.out.drew.alloc _ | exact hown.out.alloc _)
          ⟨wc.heap.size, 0, none⟩ 1 1 (spC ⟨x1, key, a, b⟩) (by rfl) (by rfl) (World.news_of_block (cs := #[.int .i64 x1, .int .i64 key, .int .i64 a, .int .i64 b]) (t := 114) (fr := (0, 0)) (heap_alloc_new wc _)) (by simp [spC, Value.oneCell'])
          (by omega) (by unfold maxLen; omega) (by omega) (by simp; omega) (wc.heap.size + 1) (by simp) ?_; intro gg cap w3 hown1 hgrow hat hlt; have g4 : w3.cell? ⟨s.gK, 4, none⟩ = some v := (by rw [hgrow.cell_far _ (by simp; omega) (Ne.symm ne)]; simp [go_sem, *]); have gf : w3.frozen? ⟨s.gK, 4, none⟩ = false := (by rw [hgrow.frozen_far _ (by simp; omega) (Ne.symm ne)]; simp [go_sem, *])))
     all_goals
      go_wp2
      go_meet
      case rel =>
        have hbl : Below s.gK wc w3 := (((Below.refl _ wc).alloc (by omega) _).drew.grown hgrow (by simp; omega) (fun k h => by
          rcases hown.out.2 with ⟨e, _⟩ | ⟨g, cap, cur, e, e2, _⟩
          · subst e; cases h
          · subst e; simp only [Value.ownBlock, Option.some.injEq] at h; omega))
        refine ⟨gg, cap, ⟨?_, ?_⟩, ?_⟩
        · have hw3 : WkAt w3 s v := by
            unfold WkAt RowAt
            rw [hgrow.block s.gK (by simp; omega) (Ne.symm ne)]
            have h := RowAt.drew (RowAt.alloc WK.out (.cells #[.int .i64 x1, .int .i64 key, .int .i64 a, .int .i64 b] 114))
            exact h
          exact RowAt.set hw3 4 _
        · rw [spCells_snoc, List.length_append]
          exact ownsRow_other hown1 _ (Nat.lt_succ_self _) _
        · exact (((Keep.of_below B1.out []).below (by simp) (by omega) : Below s.gK w wc).trans hbl).trans (((Keep.refl [s.gK] w3).setCell (Or.inl (List.mem_singleton.2 rfl)) _).below (fun k hk => by have := List.mem_singleton.1 hk; omega) (by have := hgrow.size; simp at this; omega))
    case rest =>
      obtain ⟨gg, cap, hH2, hb2⟩ := hcut
      clear k4 f4 q0 q1 q2 q3 ne B1 hown WK hgk' hsz hlt0 hi0 hz0 hz1 hz2 w1 w2 hkn'
      have hgkc : s.gK < wc.heap.size := hH2.1.lt
      have k4 : wc.cell? ⟨s.gK, 4, none⟩ = some (.slice (some ⟨gg, 0, none⟩) (L.length + 1) cap) := by rw [hH2.1.cell]; rfl
      have k5 : wc.cell? ⟨s.gK, 5, none⟩ = some (.slice (some ⟨s.gFr, 0, none⟩) 1 1) := by rw [hH2.1.cell]; rfl
      have k6 := (SS.out.below hb2).fr
      have hcap : L.length + 1 ≤ cap := by
        rcases hH2.2.2 with ⟨e, _⟩ | ⟨g, c', cur, e, _, _, e4, _⟩
        · cases e
        · simp only [Value.slice.injEq] at e; simp at e4; omega
      have hcapi : (L.length : Int) + 1 ≤ (cap : Int) := by omega
      have H2 := hid hH2
      have B2 := hid hb2
      clear hH2 hb2
      go_wp2
      go_quiet (fail)
      go_wp2_with fail
      clear k4 k5 k6
      go_loopw [5, 6] (fun i _ wr => ∃ (k : Nat) (M : List Sp), i = .int .i64 k ∧ k < M.length ∧ M.Perm (L ++ [(⟨x1, key, a, b⟩ : Sp)]) ∧ HeldAt wr s (.slice (some ⟨gg, 0, none⟩) (L.length + 1) cap) M ∧ Below s.gK w wr ∧ (HeapOK L → HeapBut M k)) (fun i _ _ => (intOf i).toNat)
      case atStart => exact ⟨L.length, L ++ [(⟨x1, key, a, b⟩ : Sp)], rfl, by simp, List.Perm.refl _, ⟨RowAt.drewN H2.out.1 _, ownsRow_below H2.out.2 (below_drewN (Below.refl _ _) _) (Nat.le_refl _)⟩, below_drewN B2.out _, fun h => h.snoc _⟩
      case round =>
        obtain ⟨k, M, rfl, hk, hp, hM, hB, hh⟩ := hrel
        have HM := hid hM
        have HB := hid hB
        have HP := hid hp
        have HHp := hid hh
        have hl : M.length = L.length + 1 := by have := hp.length_eq; simpa using this
        clear hM hB hp hh H2 B2
        by_cases hk0 : k = 0
        · subst hk0
          go_wp2
          go_end0
          exact ⟨rfl, HB.out, _, M, HM.out, HP.out, fun h => (HHp.out h).ok (fun h => absurd h (Nat.lt_irrefl _))⟩
        · obtain ⟨pp, hpp⟩ : ∃ pp, (k - 1) / 2 = pp := ⟨_, rfl⟩
          have e1 : ((k : Int) - 1) / 2 = (pp : Int) := by omega
          have e2 : ((k : Int) - 1).tdiv 2 = (pp : Int) := by rw [Int.tdiv_eq_ediv_of_nonneg (by omega)]; exact e1
          have hkp : (0 : Int) < (k : Int) := by omega
          have hki : (k : Int) < (L.length : Int) + 1 := by omega
          have hpi : (pp : Int) < (L.length : Int) + 1 := by omega
          have c114 : Yba.prog.cellsOf 114 = 4 := by kernel_rfl
          obtain ⟨y, hy⟩ : ∃ y, (spAt M k) = y := ⟨_, rfl⟩
          obtain ⟨z, hz⟩ : ∃ z, (spAt M pp) = z := ⟨_, rfl⟩
          have hgg : gg < wr.heap.size ∧ s.gK < gg := by
            rcases HM.out.2.2 with ⟨e, _⟩ | ⟨g, c', cur, e, g1, g2, _⟩
            · cases e
            · simp only [Value.slice.injEq, Option.some.injEq, Addr.mk.injEq] at e
              obtain ⟨⟨rfl, _⟩, _⟩ := e
              exact ⟨lt_of_block g2, by omega⟩
          have hcell : ∀ j, j < M.length → ∀ o, o < 4 → wr.cell? ⟨gg, j * 4 + o, none⟩ = (spC (spAt M j))[o]? ∧ wr.frozen? ⟨gg, j * 4 + o, none⟩ = false := fun j hj o ho => held_cell HM.out hj ho
          have cy0 : wr.cell? ⟨gg, k * 4, none⟩ = some (.int .i64 y.ahead) := by have := (hcell k hk 0 (by omega)).1; rw [hy] at this; simpa [spC] using this
          have cy1 : wr.cell? ⟨gg, k * 4 + 1, none⟩ = some (.int .i64 y.key) := by have := (hcell k hk 1 (by omega)).1; rw [hy] at this; simpa [spC] using this
          have cy2 : wr.cell? ⟨gg, k * 4 + 2, none⟩ = some (.int .i64 y.a) := by have := (hcell k hk 2 (by omega)).1; rw [hy] at this; simpa [spC] using this
          have cy3 : wr.cell? ⟨gg, k * 4 + 3, none⟩ = some (.int .i64 y.b) := by have := (hcell k hk 3 (by omega)).1; rw [hy] at this; simpa [spC] using this
          have cz0 : wr.cell? ⟨gg, pp * 4, none⟩ = some (.int .i64 z.ahead) := by have := (hcell pp (by omega) 0 (by omega)).1; rw [hz] at this; simpa [spC] using this
          have cz1 : wr.cell? ⟨gg, pp * 4 + 1, none⟩ = some (.int .i64 z.key) := by have := (hcell pp (by omega) 1 (by omega)).1; rw [hz] at this; simpa [spC] using this
          have cz2 : wr.cell? ⟨gg, pp * 4 + 2, none⟩ = some (.int .i64 z.a) := by have := (hcell pp (by omega) 2 (by omega)).1; rw [hz] at this; simpa [spC] using this
          have cz3 : wr.cell? ⟨gg, pp * 4 + 3, none⟩ = some (.int .i64 z.b) := by have := (hcell pp (by omega) 3 (by omega)).1; rw [hz] at this; simpa [spC] using this
          have KB : Hid (∀ W, Calls Yba.prog 12 #[y.v, z.v] W fun e w' => e = .returned (.bool (y.before z)) ∧ Below W.heap.size W w') := fun W => before_any y z W
          have hgg1 := hgg.1
          have hgg2 := hgg.2
          have HC := hid hcell
          have HY := hid hy
          have HZ := hid hz
          have hkl := hk
          clear hcell hy hz hgg
          simp only [Sp.v] at KB
          obtain ⟨bb, hbb⟩ : ∃ bb, y.before z = bb := ⟨_, rfl⟩
          rw [hbb] at KB
          have HBB := hid hbb
          clear hbb
          go_wp2_with fail
          go_region_held3 (fun wy => wy.cell? ⟨gg, k * 4, none⟩ = some (.int .i64 y.ahead) ∧ wy.cell? ⟨gg, k * 4 + 1, none⟩ = some (.int .i64 y.key) ∧ wy.cell? ⟨gg, k * 4 + 2, none⟩ = some (.int .i64 y.a) ∧ wy.cell? ⟨gg, k * 4 + 3, none⟩ = some (.int .i64 y.b) ∧ wy.cell? ⟨gg, pp * 4, none⟩ = some (.int .i64 z.ahead) ∧ wy.cell? ⟨gg, pp * 4 + 1, none⟩ = some (.int .i64 z.key) ∧ wy.cell? ⟨gg, pp * 4 + 2, none⟩ = some (.int .i64 z.a) ∧ wy.cell? ⟨gg, pp * 4 + 3, none⟩ = some (.int .i64 z.b))
            (first | go_keep | (refine ⟨?_, ?_, ?_, ?_, ?_, ?_, ?_, ?_⟩ <;> (rw [hc4 _ _ (by simp; omega)]; assumption)))
            ((go_at_call 12; refine (KB.out _).mono ?_; rintro e w4 ⟨rfl, hb4⟩; obtain ⟨hc4, hf4⟩ := bcell hb4))
          rename_i hHeld
          obtain ⟨d0, d1, d2, d3, t0, t1, t2, t3⟩ := hHeld
          have hD : Below wr.heap.size wr w4 := ((Below.refl _ wr).drew).trans hb4
          have hz4 := hD.size
          have hgg4 : gg < w4.heap.size := by omega
          have HM4 : Hid (HeldAt w4 s (.slice (some ⟨gg, 0, none⟩) (L.length + 1) cap) M) := ⟨RowAt.below HM.out.1 hD HM.out.1.lt, ownsRow_below HM.out.2 hD (Nat.le_refl _)⟩
          have HB4 : Hid (Below s.gK w w4) := HB.out.trans (hD.mono (Nat.le_of_lt HM.out.1.lt))
          clear hb4 hc4 hf4 hD cy0 cy1 cy2 cy3 cz0 cz1 cz2 cz3 HM HB HC KB
          cases bb with
          | false =>
            go_wp2
            (try simp only [Exit.inBlock, Exit.then])
            refine bodyPost_ret (results_none rfl _ _ _) rfl ?_
            exact ⟨rfl, HB4.out, _, M, HM4.out, HP.out, fun h => (HHp.out h).ok (fun _ _ => by rw [HY.out, hpp, HZ.out]; exact HBB.out)⟩
          | true =>
            have fz : ∀ j, j < M.length → ∀ o, o < 4 → w4.frozen? ⟨gg, j * 4 + o, none⟩ = false := fun j hj o ho => (held_cell HM4.out hj ho).2
            have fy0 : w4.frozen? ⟨gg, k * 4, none⟩ = false := fz k hk 0 (by omega)
            have fy1 := fz k hk 1 (by omega)
            have fy2 := fz k hk 2 (by omega)
            have fy3 := fz k hk 3 (by omega)
            have fz0 : w4.frozen? ⟨gg, pp * 4, none⟩ = false := fz pp (by omega) 0 (by omega)
            have fz1 := fz pp (by omega) 1 (by omega)
            have fz2 := fz pp (by omega) 2 (by omega)
            have fz3 := fz pp (by omega) 3 (by omega)
            have hnk : pp < k := by omega
            clear fz
            go_wp2_with fail
            go_region_with (fail)
            all_goals
              go_wp2
              go_roundw
              case rel =>
                refine ⟨pp, swapL M k pp, rfl, by rw [swapL_length]; omega, (swapL_perm hk (by omega)).trans HP.out, ?_, ?_, fun h => by rw [← hpp]; exact (HHp.out h).swap (by omega) hk (by rw [HY.out, hpp, HZ.out]; exact HBB.out)⟩
                · have h1 := held_put HM4.out hk hgg2 z
                  have h2 := held_put h1 (j := pp) (by rw [List.length_set]; omega) hgg2 y
                  unfold swapL
                  rw [HY.out, HZ.out]
                  exact ⟨RowAt.drew h2.1, ownsRow_below h2.2 ((Below.refl _ _).drew) (Nat.le_refl _)⟩
                · exact HB4.out.trans (((Keep.refl [gg] w4).setCell (Or.inl (List.mem_singleton.2 rfl)) _ |>.setCell (Or.inl (List.mem_singleton.2 rfl)) _ |>.setCell (Or.inl (List.mem_singleton.2 rfl)) _ |>.setCell (Or.inl (List.mem_singleton.2 rfl)) _ |>.setCell (Or.inl (List.mem_singleton.2 rfl)) _ |>.setCell (Or.inl (List.mem_singleton.2 rfl)) _ |>.setCell (Or.inl (List.mem_singleton.2 rfl)) _ |>.setCell (Or.inl (List.mem_singleton.2 rfl)) _ |>.drewN 1).below (fun q hq => by have := List.mem_singleton.1 hq; omega) (by omega))
              case measure => simp [intOf]; omega
end Go.Proofs.Ybulkcwnq
