import Derived.Test.YbulkcwnqLex
namespace Go.Proofs.Ybulkcwnq
open Go.RowKit

/-- Where the plan lies. -/
structure Pl where
  gP : Nat
  gR : Nat
  gS : Nat
  gI : Nat
  gF : Nat
  gW : Nat
  g : Nat → Nat
  c : Nat → Nat

/-- The plan, its runs and its rests. -/
structure PlanAt (w : World) (p : Pl) (rows : List (List Int)) : Prop where
  rs : w.cell? ⟨p.gP, 4, none⟩ = some (.pointer (some ⟨p.gR, 0, none⟩))
  byRest : w.cell? ⟨p.gP, 5, none⟩ = some (.slice (some ⟨p.gI, 0, none⟩) rows.length rows.length)
  restRun : w.cell? ⟨p.gP, 9, none⟩ = some (.slice (some ⟨p.gI, 0, none⟩) rows.length rows.length)
  restFrom : w.cell? ⟨p.gP, 10, none⟩ = some (.slice (some ⟨p.gF, 0, none⟩) rows.length rows.length)
  waitOn : w.cell? ⟨p.gP, 11, none⟩ = some (.slice (some ⟨p.gW, 0, none⟩) 2 2)
  ids : w.cell? ⟨p.gR, 0, none⟩ = some (.slice (some ⟨p.gS, 0, none⟩) rows.length rows.length)
  row : ∀ (u : Nat) (r : List Int), rows[u]? = some r → w.cell? ⟨p.gS, u, none⟩ = some (.slice (some ⟨p.g u, 0, none⟩) r.length (p.c u))
  id : ∀ (u : Nat) (r : List Int), rows[u]? = some r → ∀ k v, r[k]? = some v → w.cell? ⟨p.g u, k, none⟩ = some (.int .u32 v)
  idx : ∀ u, u < rows.length → w.cell? ⟨p.gI, u, none⟩ = some (.int .i64 u)
  frm : ∀ u, u < rows.length → w.cell? ⟨p.gF, u, none⟩ = some (.int .i64 0)
  wait0 : w.cell? ⟨p.gW, 0, none⟩ = some (.int .i64 0)
  wait1 : w.cell? ⟨p.gW, 1, none⟩ = some (.int .i64 rows.length)
  bound : rows.length ≤ 1024 ∧ ∀ (u : Nat) (r : List Int), rows[u]? = some r → r.length ≤ 1025 ∧ ∀ v ∈ r, 0 ≤ v ∧ v < 3

/-- All of it lies below the block B. -/
def Pl.under (p : Pl) (t B : Nat) : Prop := p.gP < B ∧ p.gR < B ∧ p.gS < B ∧ p.gI < B ∧ p.gF < B ∧ p.gW < B ∧ ∀ u, u < t → p.g u < B

theorem PlanAt.below {w w' : World} {p : Pl} {rows : List (List Int)} {B : Nat} (h : PlanAt w p rows) (hb : Below B w w') (hp : p.under rows.length B) : PlanAt w' p rows := by
  obtain ⟨h1, h2, h3, h4, h5, h6, h7⟩ := hp
  have C : ∀ b o, b < B → w'.cell? ⟨b, o, none⟩ = w.cell? ⟨b, o, none⟩ := fun b o h => hb.cell (p := ⟨b, o, none⟩) h
  have L : ∀ (u : Nat) (r : List Int), rows[u]? = some r → u < rows.length := fun u r h => (List.getElem?_eq_some_iff.1 h).1
  exact ⟨by rw [C _ _ h1]; exact h.rs, by rw [C _ _ h1]; exact h.byRest, by rw [C _ _ h1]; exact h.restRun, by rw [C _ _ h1]; exact h.restFrom, by rw [C _ _ h1]; exact h.waitOn,
    by rw [C _ _ h2]; exact h.ids, fun u r e => by rw [C _ _ h3]; exact h.row u r e, fun u r e k v f => by rw [C _ _ (h7 u (L u r e))]; exact h.id u r e k v f,
    fun u e => by rw [C _ _ h4]; exact h.idx u e, fun u e => by rw [C _ _ h5]; exact h.frm u e, by rw [C _ _ h6]; exact h.wait0, by rw [C _ _ h6]; exact h.wait1, h.bound⟩
theorem PlanAt.drewN {w : World} {p : Pl} {rows : List (List Int)} (h : PlanAt w p rows) (q : Nat) : PlanAt (w.drewN q) p rows := by
  have C : ∀ a, (w.drewN q).cell? a = w.cell? a := fun a => by
    obtain ⟨b, o, x⟩ := a
    simp [World.cell?]
  exact ⟨by rw [C]; exact h.rs, by rw [C]; exact h.byRest, by rw [C]; exact h.restRun, by rw [C]; exact h.restFrom, by rw [C]; exact h.waitOn,
    by rw [C]; exact h.ids, fun u r e => by rw [C]; exact h.row u r e, fun u r e k v f => by rw [C]; exact h.id u r e k v f,
    fun u e => by rw [C]; exact h.idx u e, fun u e => by rw [C]; exact h.frm u e, by rw [C]; exact h.wait0, by rw [C]; exact h.wait1, h.bound⟩

/-- restID. -/
def rid (r : List Int) (d : Nat) : Int := r.getD d (-1)
theorem rid_some {r : List Int} {d : Nat} {v : Int} (h : r[d]? = some v) : rid r d = v := by simp [rid, h]
theorem rid_none {r : List Int} {d : Nat} (h : r.length ≤ d) : rid r d = -1 := by simp [rid, List.getElem?_eq_none h]

set_option maxHeartbeats 1000000 in
/-- (*plan).restID. -/
theorem restID_any (p : Pl) (rows : List (List Int)) (u d : Nat) (r : List Int) (w : World) (P : PlanAt w p rows) (hu : rows[u]? = some r) (hd : d ≤ 1024) :
    Calls Yba.prog 18 #[.pointer (some ⟨p.gP, 0, none⟩), .int .i64 u, .int .i64 d] w fun e w' => e = .returned (.int .i64 (rid r d)) ∧ ∃ q, w' = w.drewN q := by
  have c4 := P.rs
  have c9 := P.restRun
  have c10 := P.restFrom
  have ci := P.ids
  have hlt : u < rows.length := (List.getElem?_eq_some_iff.1 hu).1
  have cr := P.row u r hu
  have cx := P.idx u hlt
  have cf := P.frm u hlt
  have bd := P.bound
  have b1 := bd.1
  have b2 := (bd.2 u r hu).1
  by_cases hl : d < r.length
  · obtain ⟨v, hv⟩ := get_of_lt hl
    have cv := P.id u r hu d v hv
    have b3 := (bd.2 u r hu).2 v (List.mem_of_getElem? hv)
    obtain ⟨b4, b5⟩ := b3
    rw [rid_some hv]
    clear P bd hu hv
    go_enter Yba.func18, Yba.ntmps18
    go_wp2
    go_quiet (fail)
    go_wp2
    go_ret
    exact ⟨rfl, _, rfl⟩
  · rw [rid_none (by omega)]
    clear P bd hu
    go_enter Yba.func18, Yba.ntmps18
    go_wp2
    go_quiet (fail)
    go_wp2
    go_ret
    exact ⟨rfl, _, rfl⟩
end Go.Proofs.Ybulkcwnq
