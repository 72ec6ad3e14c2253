import Derived.Test.YbulkcwnqLaw0
import Derived.Lib.SmallJoins
import Derived.Deep.Slices
import Derived.ChangeSlices
import Derived.OpenShut
namespace Go.Proofs.Ybulkcwnq
open Go.ChangeShapes Go.WideShapes Go.ChangeAt Go.RowKit Go.Joins Go.Deep

theorem cells5 : Yba.prog.cellsOf 5 = 1 := by kernel_rfl
theorem cells22 : Yba.prog.cellsOf 22 = 1 := by kernel_rfl
theorem cells83 : Yba.prog.cellsOf 83 = 1 := by kernel_rfl

/-- A slice of integers that came in, with its cells. -/
theorem ints_view {H : Type} {enc : TypeId × Value → H} {w : World} {fuel : Nat} {c : Value} {x : DataW H × List MemPlace} {t e : TypeId} {k0 : IntKind} (ht : Yba.prog.underlying t = some (.slice e)) (he : Yba.prog.underlying e = some (.int k0)) (hc : Yba.prog.cellsOf e = 1)
    (h : DataW.trod enc Yba.prog w 0 (fun _ => true) true fuel t [c] = some x) :
    ∃ (a : Option Addr) (cap : Nat) (xs : List Int), c = .slice a xs.length cap ∧ xs.length ≤ maxLen ∧ (∀ (k : Nat) (v : Int), xs[k]? = some v → ∃ b off, a = some ⟨b, off, none⟩ ∧ w.cell? ⟨b, off + k, none⟩ = some (.int k0 v)) ∧ ∀ v ∈ xs, (Lit.int k0 v).wf = true := by
  rcases open_ints ht he hc h with ⟨hcs, _⟩ | ⟨a, len, cap, zs, hcs, _, hl, hm, hz, _, hcell, hwz⟩
  · simp at hcs
    subst hcs
    exact ⟨none, 0, [], rfl, by simp, fun k v h => by simp at h, fun v h => by simp at h⟩
  · simp at hcs
    subst hcs
    simp only [if_true] at hz
    have hlen : (zs.take len).length = len := by rw [List.length_take]; omega
    refine ⟨some a, cap, zs.take len, by rw [hlen], by omega, fun k v hk => ?_, fun v hv => hwz v (List.mem_of_mem_take hv)⟩
    have hk' : k < len := by have := (List.getElem?_eq_some_iff.1 hk).1; omega
    have hc1 := hcell k (by omega)
    have hc0 := hcell 0 (by omega)
    obtain ⟨b, off, spot⟩ := a
    have hspot : spot = none := by simpa [Addr.add] using World.cell?_spot hc0
    subst hspot
    rw [Go.WideShapes.add_plain] at hc1
    refine ⟨b, off, rfl, ?_⟩
    rw [List.getElem?_take_of_lt hk'] at hk
    rw [hc1, List.getD_eq_getElem?_getD, hk]
    rfl
/-- A slice of slices of bytes that came in, with its cells. -/
theorem rows_view {H : Type} {enc : TypeId × Value → H} {w : World} {fuel : Nat} {c : Value} {x : DataW H × List MemPlace} (h : DataW.trod enc Yba.prog w 0 (fun _ => true) true fuel 72 [c] = some x) :
    ∃ (a : Option Addr) (cap : Nat) (rst : List (Option Addr × Nat × List Int)), c = .slice a rst.length cap ∧ rst.length ≤ maxLen ∧ (∀ (u : Nat) (r : Option Addr × Nat × List Int), rst[u]? = some r → ∃ b off, a = some ⟨b, off, none⟩ ∧ w.cell? ⟨b, off + u, none⟩ = some (.slice r.1 r.2.2.length r.2.1)) ∧
      (∀ (u : Nat) (r : Option Addr × Nat × List Int), rst[u]? = some r → r.2.2.length ≤ maxLen ∧ ∀ (k : Nat) (v : Int), r.2.2[k]? = some v → ∃ b off, r.1 = some ⟨b, off, none⟩ ∧ w.cell? ⟨b, off + k, none⟩ = some (.int .u8 v) ∧ 0 ≤ v ∧ v ≤ 255) := by
  rcases open_slice1 Yba.underlying72 cells22 h with ⟨hcs, _⟩ | ⟨a, len, cap, m, n, V, D, Pl, hcs, _, hl, hm, hmm, _, hV⟩
  · simp at hcs
    subst hcs
    exact ⟨none, 0, [], rfl, by simp, fun k v h => by simp at h, fun k v h => by simp at h⟩
  · simp at hcs
    subst hcs
    simp only [if_true] at hmm
    subst hmm
    have P : ∀ u, ∃ r : Option Addr × Nat × List Int, u < len → V u = .slice r.1 r.2.2.length r.2.1 ∧ r.2.2.length ≤ maxLen ∧ ∀ (k : Nat) (v : Int), r.2.2[k]? = some v → ∃ b off, r.1 = some ⟨b, off, none⟩ ∧ w.cell? ⟨b, off + k, none⟩ = some (.int .u8 v) ∧ 0 ≤ v ∧ v ≤ 255 := fun u => by
      by_cases hu : u < len
      · obtain ⟨a', cap', xs, h1, h2, h3, h4⟩ := ints_view Yba.underlying22 Yba.underlying5 cells5 (hV u (by omega)).2
        refine ⟨(a', cap', xs), fun _ => ⟨h1, h2, fun k v hk => ?_⟩⟩
        obtain ⟨b, off, e1, e2⟩ := h3 k v hk
        have := bounds_u8 (h4 v (List.mem_of_getElem? hk))
        exact ⟨b, off, e1, e2, this.1, this.2⟩
      · exact ⟨(none, 0, []), fun h => absurd h hu⟩
    obtain ⟨R, hR⟩ : ∃ R : Nat → Option Addr × Nat × List Int, ∀ u, u < len → V u = .slice (R u).1 (R u).2.2.length (R u).2.1 ∧ (R u).2.2.length ≤ maxLen ∧ ∀ (k : Nat) (v : Int), (R u).2.2[k]? = some v → ∃ b off, (R u).1 = some ⟨b, off, none⟩ ∧ w.cell? ⟨b, off + k, none⟩ = some (.int .u8 v) ∧ 0 ≤ v ∧ v ≤ 255 := ⟨fun u => (P u).choose, fun u => (P u).choose_spec⟩
    have G : ∀ (u : Nat) (r : Option Addr × Nat × List Int), ((List.range len).map R)[u]? = some r → u < len ∧ R u = r := fun u r h => by
      have hu : u < len := by have := (List.getElem?_eq_some_iff.1 h).1; simpa using this
      exact ⟨hu, by simpa [hu] using h⟩
    refine ⟨some a, m, (List.range len).map R, by simp, by simp; omega, fun u r hr => ?_, fun u r hr => ?_⟩
    · obtain ⟨hu, rfl⟩ := G u r hr
      have hc1 := (hV u (by omega)).1
      have hc0 := (hV 0 (by omega)).1
      obtain ⟨b, off, spot⟩ := a
      have hspot : spot = none := by simpa [Addr.add] using World.cell?_spot hc0
      subst hspot
      rw [Go.WideShapes.add_plain] at hc1
      exact ⟨b, off, rfl, by rw [hc1, (hR u hu).1]⟩
    · obtain ⟨hu, rfl⟩ := G u r hr
      exact (hR u hu).2
end Go.Proofs.Ybulkcwnq
