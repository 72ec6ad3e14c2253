import Derived.Test.YbulkcwheSpace
import Derived.ProofKit
namespace Go.Proofs.Ybulkcwhe
open Go.ChangeShapes Go.WideShapes Go.ChangeAt Go.RowKit
/-- WHAT THE WALK IS TOLD OF A SLICE OF INTEGERS THAT CAME IN: it is nil; or it leads to a row of 'cap' cells, the numbers 'zs' (the first 'len' are its elements, the rest its spare room), each fitting its kind. -/
def IsRow (k : IntKind) (w : World) (a : Option Addr) (len cap : Nat) (zs : List Int) : Prop :=
  (a = none ∧ len = 0 ∧ cap = 0 ∧ zs = []) ∨
  ∃ x, a = some x ∧ len ≤ cap ∧ cap ≤ maxLen ∧ zs.length = cap ∧ (∀ i, i < zs.length → w.cell? (x.add i) = some (.int k (zs.getD i 0))) ∧ ∀ n ∈ zs, (Lit.int k n).wf = true


theorem info5 : (Yba.prog.info? 5).map (fun i => (i.zero, i.size, i.bytes)) = some (some (.int .u8 0), 1, 1) := by kernel_rfl
theorem size5 : (Yba.prog.info? 5).map (·.size) = some 1 := by kernel_rfl
/-- make([]byte, n). -/
theorem make_bytes (n : Nat) (hn : n ≤ 4096) (w : World) :
    (Instr.makeSlice 22 (.int .i64 n) (.int .i64 n)).run Yba.prog w = .ok (.slice (some ⟨w.heap.size, 0, none⟩) n n) (w.alloc (.cells (List.replicate n (Value.int .u8 0)).toArray 5)) := by
  obtain ⟨i0, hi, hz0, hz1, hz2⟩ := info_parts info5
  have h := run_make (P := Yba.prog) w 22 5 i0 (.int .u8 0) Yba.underlying22 hi hz0 .i64 .i64 (n : Int) (n : Int) (by omega) (by omega) (by rw [hz2]; omega) (by omega)
  rw [hz1] at h
  simpa [Value.cells, made_replicate] using h
theorem splice_all {α : Type} (Z C : List α) (h : C.length = Z.length) : splice Z 0 C = C := by
  unfold splice; rw [List.take_zero, List.nil_append, List.drop_of_length_le (by omega), List.append_nil]

/-- The elements of a slice of integers that came in, with their cells. -/
theorem row_view {k0 : IntKind} {w : World} {a : Option Addr} {len cap : Nat} {zs : List Int} (h0 : IsRow k0 w a len cap zs) :
    ∃ xs : List Int, xs.length = len ∧ (∀ k v, xs[k]? = some v → ∃ b off, a = some ⟨b, off, none⟩ ∧ w.cell? ⟨b, off + k, none⟩ = some (.int k0 v)) ∧ ∀ v ∈ xs, (Lit.int k0 v).wf = true := by
  rcases h0 with ⟨rfl, rfl, rfl, rfl⟩ | ⟨x, rfl, hl, hm, hz, hcell, hwz⟩
  · exact ⟨[], rfl, fun k v h => by simp at h, fun v h => by simp at h⟩
  · refine ⟨zs.take len, by simp; omega, fun k v h => ?_, fun v h => hwz v (List.mem_of_mem_take h)⟩
    have hk : k < len := by have := (List.getElem?_eq_some_iff.1 h).1; simp at this; omega
    have hk' : k < zs.length := by omega
    have hc := hcell k hk'
    have hc0 := hcell 0 (by omega)
    obtain ⟨b, off, spot⟩ := x
    have hspot : spot = none := by simpa [Addr.add] using World.cell?_spot hc0
    subst hspot
    rw [List.getElem?_take_of_lt hk, List.getElem?_eq_getElem hk'] at h
    rw [add_plain] at hc
    refine ⟨b, off, rfl, ?_⟩
    simp [List.getElem?_eq_getElem hk'] at hc h
    rw [hc, h]

end Go.Proofs.Ybulkcwhe
