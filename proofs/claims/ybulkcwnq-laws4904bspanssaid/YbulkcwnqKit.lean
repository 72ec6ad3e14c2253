import Derived.Test.YbulkcwnqRows
import Derived.WalkKit
import Derived.WalkSpells
import Derived.WalkLawsBesides
import Derived.StillTactics
import Derived.Laws.Pointers
import Derived.Laws.CopyOwn
import Derived.Deep.RegionHeld3
import Derived.Deep.RegionWith
import Derived.Deep.QuietTactic
import Derived.BigQuiet
import Derived.Outline
import Derived.Deep.Light
import Derived.Deep.DeepCutAuto
import Derived.WalkSmall
import Derived.RowKit3
import Derived.Below
import Derived.OneCell
namespace Go.Proofs.Ybulkcwnq
open Go.RowKit

theorem ret_bool {a b : Bool} (h : a = b) : Ending.returned (.bool a) = .returned (.bool b) := by rw [h]
theorem ret_int {k : IntKind} {a b : Int} (h : a = b) : Ending.returned (.int k a) = .returned (.int k b) := by rw [h]

theorem hid {p : Prop} (h : p) : Hid p := h

/-- Block g is a row of one-cell elements of type e: the values vs; none of its cells is frozen. -/
def RowAt (w : World) (g : Nat) (e : TypeId) (vs : List Value) : Prop := w.heap[g]? = some (.cells vs.toArray e (0, 0))

theorem RowAt.lt {w : World} {g : Nat} {e : TypeId} {vs : List Value} (h : RowAt w g e vs) : g < w.heap.size := lt_of_block h
theorem RowAt.cell {w : World} {g : Nat} {e : TypeId} {vs : List Value} (h : RowAt w g e vs) (i : Nat) : w.cell? ⟨g, i, none⟩ = vs[i]? := by
  unfold RowAt at h; simp [World.cell?, h]
theorem RowAt.frozen {w : World} {g : Nat} {e : TypeId} {vs : List Value} (h : RowAt w g e vs) (i : Nat) : w.frozen? ⟨g, i, none⟩ = false := by
  unfold RowAt at h; simp [World.frozen?, h]
theorem RowAt.set {w : World} {g : Nat} {e : TypeId} {vs : List Value} (h : RowAt w g e vs) (i : Nat) (v : Value) : RowAt (w.setCell ⟨g, i, none⟩ v) g e (vs.set i v) := by
  have hlt := h.lt
  unfold RowAt at h ⊢
  have h' : w.heap[g] = .cells vs.toArray e (0, 0) := by simpa [Array.getElem?_eq_getElem hlt] using h
  show (w.heap.modify g _)[g]? = _
  rw [Array.getElem?_eq_getElem (by simpa using hlt), Array.getElem_modify_self, h']
  simp
theorem RowAt.below {w w' : World} {g B : Nat} {e : TypeId} {vs : List Value} (h : RowAt w g e vs) (hb : Below B w w') (hg : g < B) : RowAt w' g e vs := by
  unfold RowAt at h ⊢; rw [hb.block g hg]; exact h
theorem RowAt.drew {w : World} {g : Nat} {e : TypeId} {vs : List Value} (h : RowAt w g e vs) : RowAt w.drew g e vs := h
theorem RowAt.drewN {w : World} {g : Nat} {e : TypeId} {vs : List Value} (h : RowAt w g e vs) (n : Nat) : RowAt (w.drewN n) g e vs := by
  have := below_drewN (Below.refl w.heap.size w) n
  exact h.below this h.lt
theorem RowAt.alloc {w : World} {g : Nat} {e : TypeId} {vs : List Value} (h : RowAt w g e vs) (o : Obj) : RowAt (w.alloc o) g e vs :=
  h.below ((Below.refl w.heap.size w).alloc (Nat.le_refl _) o) h.lt
theorem RowAt.other {w : World} {g : Nat} {e : TypeId} {vs : List Value} (h : RowAt w g e vs) {a : Addr} (ha : g ≠ a.block) (v : Value) : RowAt (w.setCell a v) g e vs := by
  unfold RowAt at h ⊢; rw [Below.heap_setCell _ _ _ _ ha]; exact h
theorem RowAt.new (w : World) (e : TypeId) (vs : List Value) : RowAt (w.alloc (.cells vs.toArray e)) w.heap.size e vs := by
  unfold RowAt
  show (w.heap.push _)[w.heap.size]? = _
  simp

theorem made_replicate (z : Value) (n : Nat) : madeCells #[z] n = (List.replicate n z).toArray := by
  apply Array.ext
  · simp [madeCells]
  · intro i h1 h2
    simp [madeCells, Nat.mod_one]
/-- Of what lay in w only the blocks on the list S may have turned. -/
structure Keep (S : List Nat) (w w' : World) : Prop where
  os : w'.os = w.os
  tape : w'.tape = w.tape
  output : w'.output = w.output
  size : w.heap.size ≤ w'.heap.size
  block : ∀ k, k < w.heap.size → k ∉ S → w'.heap[k]? = w.heap[k]?

theorem Keep.refl (S : List Nat) (w : World) : Keep S w w := ⟨rfl, rfl, rfl, Nat.le_refl _, fun _ _ _ => rfl⟩
theorem Keep.trans {S : List Nat} {a b c : World} (h : Keep S a b) (k : Keep S b c) : Keep S a c :=
  ⟨k.os.trans h.os, k.tape.trans h.tape, k.output.trans h.output, Nat.le_trans h.size k.size, fun i hi hs => (k.block i (Nat.lt_of_lt_of_le hi h.size) hs).trans (h.block i hi hs)⟩
theorem Keep.mono {S S' : List Nat} {w w' : World} (h : Keep S w w') (hs : ∀ k ∈ S, k < w.heap.size → k ∈ S') : Keep S' w w' :=
  ⟨h.os, h.tape, h.output, h.size, fun i hi hn => h.block i hi (fun hm => hn (hs i hm hi))⟩
theorem Keep.of_below {w w' : World} (h : Below w.heap.size w w') (S : List Nat) : Keep S w w' := ⟨h.os, h.tape, h.output, h.size, fun i hi _ => h.block i hi⟩
theorem Keep.below {S : List Nat} {w w' : World} {B : Nat} (h : Keep S w w') (hS : ∀ k ∈ S, B ≤ k) (hB : B ≤ w.heap.size) : Below B w w' :=
  ⟨h.os, h.tape, h.output, h.size, fun i hi => h.block i (Nat.lt_of_lt_of_le hi hB) (fun hm => by have := hS i hm; omega)⟩
theorem Keep.alloc {S : List Nat} {a w : World} (h : Keep S a w) (o : Obj) : Keep S a (w.alloc o) :=
  h.trans (Keep.of_below ((Below.refl _ w).alloc (Nat.le_refl _) o) S)
theorem Keep.drewN {S : List Nat} {a w : World} (h : Keep S a w) (n : Nat) : Keep S a (w.drewN n) :=
  h.trans (Keep.of_below (below_drewN (Below.refl _ w) n) S)
theorem Keep.setCell {S : List Nat} {a w : World} (h : Keep S a w) {p : Addr} (hp : p.block ∈ S ∨ a.heap.size ≤ p.block) (v : Value) : Keep S a (w.setCell p v) :=
  ⟨h.os, h.tape, h.output, by simpa [World.setCell] using h.size, fun i hi hs => by
    rw [Below.heap_setCell _ _ _ _ (fun e => by subst e; rcases hp with hp | hp; exact hs hp; omega)]; exact h.block i hi hs⟩
theorem RowAt.keep {S : List Nat} {w w' : World} {g : Nat} {e : TypeId} {vs : List Value} (h : RowAt w g e vs) (hk : Keep S w w') (hg : g ∉ S) : RowAt w' g e vs := by
  unfold RowAt; rw [hk.block g h.lt hg]; exact h

theorem get_of_lt {α : Type} {xs : List α} {k : Nat} (h : k < xs.length) : ∃ v, xs[k]? = some v := ⟨xs[k], List.getElem?_eq_getElem h⟩
theorem bcell {W w1 : World} (hb : Below W.heap.size W w1) : (∀ b o, b < W.heap.size → w1.cell? ⟨b, o, none⟩ = W.cell? ⟨b, o, none⟩) ∧ (∀ b o, b < W.heap.size → w1.frozen? ⟨b, o, none⟩ = W.frozen? ⟨b, o, none⟩) :=
  ⟨fun b o h => hb.cell (p := ⟨b, o, none⟩) h, fun b o h => hb.frozen (p := ⟨b, o, none⟩) h⟩
end Go.Proofs.Ybulkcwnq
