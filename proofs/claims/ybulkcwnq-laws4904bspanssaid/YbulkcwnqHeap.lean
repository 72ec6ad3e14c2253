import Derived.Test.YbulkcwnqWithin
namespace Go.Proofs.Ybulkcwnq
open Go.RowKit Go.Lib

/-- The j-th span. -/
def spAt (L : List Sp) (j : Nat) : Sp := L.getD j ⟨0, 0, 0, 0⟩
theorem spAt_pos (L : List Sp) (j : Nat) (h : j < L.length) : spAt L j = L[j] := by simp [spAt, h]

theorem before_asym {x y : Sp} (h : x.before y = true) : y.before x = false := by
  unfold Sp.before at *
  have := of_decide_eq_true h
  exact decide_eq_false (by omega)
theorem before_trans {x y z : Sp} (h : x.before y = true) (h' : y.before z = true) : x.before z = true := by
  unfold Sp.before at *
  have := of_decide_eq_true h
  have := of_decide_eq_true h'
  exact decide_eq_true (by omega)
theorem before_ntrans {x y z : Sp} (h : x.before y = false) (h' : y.before z = false) : x.before z = false := by
  unfold Sp.before at *
  have := of_decide_eq_false h
  have := of_decide_eq_false h'
  exact decide_eq_false (by omega)

/-- The heap. -/
def HeapOK (L : List Sp) : Prop := ∀ j, 0 < j → j < L.length → (spAt L j).before (spAt L ((j - 1) / 2)) = false
/-- The heap but at the place i. -/
def HeapBut (L : List Sp) (i : Nat) : Prop :=
  (∀ j, 0 < j → j < L.length → j ≠ i → (spAt L j).before (spAt L ((j - 1) / 2)) = false) ∧
  (∀ j, 0 < j → j < L.length → (j - 1) / 2 = i → 0 < i → (spAt L j).before (spAt L ((i - 1) / 2)) = false)

theorem HeapBut.ok {L : List Sp} {i : Nat} (h : HeapBut L i) (hi : 0 < i → i < L.length → (spAt L i).before (spAt L ((i - 1) / 2)) = false) : HeapOK L := fun j h1 h2 => by
  by_cases e : j = i
  · subst e; exact hi h1 h2
  · exact h.1 j h1 h2 e
theorem HeapOK.snoc {L : List Sp} (h : HeapOK L) (s : Sp) : HeapBut (L ++ [s]) L.length := by
  have g : ∀ j, j < L.length → (spAt (L ++ [s]) j) = (spAt L j) := fun j hj => by
    rw [spAt_pos (L ++ [s]) j (by simp; omega), spAt_pos L j hj, List.getElem_append_left hj]
  refine ⟨fun j h1 h2 h3 => ?_, fun j h1 h2 h3 h4 => ?_⟩
  · have hj : j < L.length := by simp at h2; omega
    rw [g j hj, g _ (by omega)]
    exact h j h1 hj
  · simp at h2; omega

def swapL (L : List Sp) (i p : Nat) : List Sp := (L.set i (spAt L p)).set p (spAt L i)
theorem swapL_length (L : List Sp) (i p : Nat) : (swapL L i p).length = L.length := by simp [swapL]
theorem swapL_i {L : List Sp} {i p : Nat} (hi : i < L.length) (hne : p ≠ i) : (spAt (swapL L i p) i) = (spAt L p) := by
  rw [spAt_pos _ i (by rw [swapL_length]; exact hi)]
  simp [swapL, hne]
theorem swapL_p {L : List Sp} {i p : Nat} (hp : p < L.length) : (spAt (swapL L i p) p) = (spAt L i) := by
  rw [spAt_pos _ p (by rw [swapL_length]; exact hp)]
  simp [swapL]
theorem swapL_o {L : List Sp} {i p j : Nat} (hj : j < L.length) (h1 : j ≠ i) (h2 : j ≠ p) : (spAt (swapL L i p) j) = (spAt L j) := by
  rw [spAt_pos _ j (by rw [swapL_length]; exact hj), spAt_pos L j hj]
  simp [swapL, Ne.symm h1, Ne.symm h2]
theorem HeapBut.swap {L : List Sp} {i : Nat} (h : HeapBut L i) (hi : 0 < i) (hl : i < L.length) (hb : (spAt L i).before (spAt L ((i - 1) / 2)) = true) : HeapBut (swapL L i ((i - 1) / 2)) ((i - 1) / 2) := by
  obtain ⟨a, b⟩ := h
  have hp : (i - 1) / 2 < L.length := by omega
  have hne : (i - 1) / 2 ≠ i := by omega
  refine ⟨fun j h1 h2 h3 => ?_, fun j h1 h2 h3 h4 => ?_⟩
  · rw [swapL_length] at h2
    by_cases e : j = i
    · subst e
      rw [swapL_i hl hne, swapL_p hp]
      exact before_asym hb
    · rw [swapL_o h2 e h3]
      by_cases e2 : (j - 1) / 2 = i
      · rw [e2, swapL_i hl hne]
        exact b j h1 h2 e2 hi
      · by_cases e3 : (j - 1) / 2 = (i - 1) / 2
        · rw [e3, swapL_p hp]
          have h' := a j h1 h2 e
          rw [e3] at h'
          cases hc : (spAt L j).before (spAt L i) with
          | false => rfl
          | true => rw [before_trans hc hb] at h'; cases h'
        · rw [swapL_o (by omega) e2 e3]
          exact a j h1 h2 e
  · rw [swapL_length] at h2
    rw [swapL_o (j := ((i - 1) / 2 - 1) / 2) (by omega) (by omega) (by omega)]
    by_cases e : j = i
    · subst e
      rw [swapL_i hl hne]
      exact a ((j - 1) / 2) h4 hp hne
    · rw [swapL_o h2 e (by omega)]
      have x := a j h1 h2 e
      rw [h3] at x
      exact before_ntrans x (a ((i - 1) / 2) h4 hp hne)
theorem swapL_perm {L : List Sp} {i p : Nat} (hi : i < L.length) (hp : p < L.length) : (swapL L i p).Perm L := by
  unfold swapL
  rw [spAt_pos L p hp, spAt_pos L i hi]
  exact List.set_set_perm hi hp
end Go.Proofs.Ybulkcwnq
