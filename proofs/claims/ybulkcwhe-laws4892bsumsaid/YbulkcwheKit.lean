import Derived.Test.YbulkcwheRows
import Derived.WalkKit
import Derived.WalkSpells
import Derived.WalkLawsBesides
import Derived.StillTactics
import Derived.Laws.Pointers
import Derived.Laws.CopyOwn
import Derived.Deep.RegionHeld3
import Derived.Deep.RegionWith
import Derived.Deep.QuietTactic
import Derived.BigQuiet
import Derived.Outline
import Derived.Deep.Light
import Derived.Deep.DeepCutAuto
import Derived.WalkSmall
import Derived.RowKit3
import Derived.Below
import Derived.OneCell
namespace Go.Proofs.Ybulkcwhe
open Go.RowKit

theorem ret_bool {a b : Bool} (h : a = b) : Ending.returned (.bool a) = .returned (.bool b) := by rw [h]
theorem ret_int {k : IntKind} {a b : Int} (h : a = b) : Ending.returned (.int k a) = .returned (.int k b) := by rw [h]

theorem hid {p : Prop} (h : p) : Hid p := h

/-- Block g is a row of one-cell elements of type e: the values vs; none of its cells is frozen. -/
def RowAt (w : World) (g : Nat) (e : TypeId) (vs : List Value) : Prop := w.heap[g]? = some (.cells vs.toArray e (0, 0))

theorem RowAt.lt {w : World} {g : Nat} {e : TypeId} {vs : List Value} (h : RowAt w g e vs) : g < w.heap.size := lt_of_block h
theorem RowAt.cell {w : World} {g : Nat} {e : TypeId} {vs : List Value} (h : RowAt w g e vs) (i : Nat) : w.cell? ⟨g, i, none⟩ = vs[i]? := by
  unfold RowAt at h; simp [World.cell?, h]
theorem RowAt.frozen {w : World} {g : Nat} {e : TypeId} {vs : List Value} (h : RowAt w g e vs) (i : Nat) : w.frozen? ⟨g, i, none⟩ = false := by
  unfold RowAt at h; simp [World.frozen?, h]
theorem RowAt.set {w : World} {g : Nat} {e : TypeId} {vs : List Value} (h : RowAt w g e vs) (i : Nat) (v : Value) : RowAt (w.setCell ⟨g, i, none⟩ v) g e (vs.set i v) := by
  have hlt := h.lt
  unfold RowAt at h ⊢
  have h' : w.heap[g] = .cells vs.toArray e (0, 0) := by simpa [Array.getElem?_eq_getElem hlt] using h
  show (w.heap.modify g _)[g]? = _
  rw [Array.getElem?_eq_getElem (by simpa using hlt), Array.getElem_modify_self, h']
  simp
theorem RowAt.below {w w' : World} {g B : Nat} {e : TypeId} {vs : List Value} (h : RowAt w g e vs) (hb : Below B w w') (hg : g < B) : RowAt w' g e vs := by
  unfold RowAt at h ⊢; rw [hb.block g hg]; exact h
theorem RowAt.drew {w : World} {g : Nat} {e : TypeId} {vs : List Value} (h : RowAt w g e vs) : RowAt w.drew g e vs := h
theorem RowAt.drewN {w : World} {g : Nat} {e : TypeId} {vs : List Value} (h : RowAt w g e vs) (n : Nat) : RowAt (w.drewN n) g e vs := by
  have := below_drewN (Below.refl w.heap.size w) n
  exact h.below this h.lt
theorem RowAt.alloc {w : World} {g : Nat} {e : TypeId} {vs : List Value} (h : RowAt w g e vs) (o : Obj) : RowAt (w.alloc o) g e vs :=
  h.below ((Below.refl w.heap.size w).alloc (Nat.le_refl _) o) h.lt
theorem RowAt.other {w : World} {g : Nat} {e : TypeId} {vs : List Value} (h : RowAt w g e vs) {a : Addr} (ha : g ≠ a.block) (v : Value) : RowAt (w.setCell a v) g e vs := by
  unfold RowAt at h ⊢; rw [Below.heap_setCell _ _ _ _ ha]; exact h
theorem RowAt.new (w : World) (e : TypeId) (vs : List Value) : RowAt (w.alloc (.cells vs.toArray e)) w.heap.size e vs := by
  unfold RowAt
  show (w.heap.push _)[w.heap.size]? = _
  simp

theorem made_replicate (z : Value) (n : Nat) : madeCells #[z] n = (List.replicate n z).toArray := by
  apply Array.ext
  · simp [madeCells]
  · intro i h1 h2
    simp [madeCells, Nat.mod_one]
end Go.Proofs.Ybulkcwhe
