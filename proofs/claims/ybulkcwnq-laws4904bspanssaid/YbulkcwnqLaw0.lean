import Derived.Test.YbulkcwnqRank
import Derived.Test.YbulkcwnqShelf
import Derived.Deep.CutBlock
namespace Go.Proofs.Ybulkcwnq
open Go.RowKit Go.Lib

/-- What came in. -/
structure ArgsAt (w : World) (a0 a1 a3 a4 : Option Addr) (ids gaps : List Int) (rst : List (Option Addr × Nat × List Int)) (ents : List Int) : Prop where
  fIds : ∀ (k : Nat) (v : Int), ids[k]? = some v → ∃ b off, a0 = some ⟨b, off, none⟩ ∧ w.cell? ⟨b, off + k, none⟩ = some (.int .u8 v) ∧ 0 ≤ v ∧ v ≤ 255
  fGaps : ∀ (k : Nat) (v : Int), gaps[k]? = some v → ∃ b off, a1 = some ⟨b, off, none⟩ ∧ w.cell? ⟨b, off + k, none⟩ = some (.int .u8 v) ∧ 0 ≤ v ∧ v ≤ 255
  fRst : ∀ (u : Nat) (r : Option Addr × Nat × List Int), rst[u]? = some r → ∃ b off, a3 = some ⟨b, off, none⟩ ∧ w.cell? ⟨b, off + u, none⟩ = some (.slice r.1 r.2.2.length r.2.1)
  fRow : ∀ (u : Nat) (r : Option Addr × Nat × List Int), rst[u]? = some r → ∀ (k : Nat) (v : Int), r.2.2[k]? = some v → ∃ b off, r.1 = some ⟨b, off, none⟩ ∧ w.cell? ⟨b, off + k, none⟩ = some (.int .u8 v) ∧ 0 ≤ v ∧ v ≤ 255
  fEnts : ∀ (k : Nat) (v : Int), ents[k]? = some v → ∃ b off, a4 = some ⟨b, off, none⟩ ∧ w.cell? ⟨b, off + k, none⟩ = some (.int .i16 v) ∧ v ≤ 32767

theorem cell_below {w w' : World} (hb : Below w.heap.size w w') {b o : Nat} {v : Value} (h : w.cell? ⟨b, o, none⟩ = some v) : w'.cell? ⟨b, o, none⟩ = some v := by
  have hlt : b < w.heap.size := by
    rcases Nat.lt_or_ge b w.heap.size with h' | h'
    · exact h'
    · simp [World.cell?, Array.getElem?_eq_none h'] at h
  rw [(bcell hb).1 b o hlt]; exact h
theorem ArgsAt.below {w w' : World} {a0 a1 a3 a4 : Option Addr} {ids gaps : List Int} {rst : List (Option Addr × Nat × List Int)} {ents : List Int} (h : ArgsAt w a0 a1 a3 a4 ids gaps rst ents) (hb : Below w.heap.size w w') : ArgsAt w' a0 a1 a3 a4 ids gaps rst ents :=
  ⟨fun k v e => by obtain ⟨b, o, h1, h2, h3⟩ := h.fIds k v e; exact ⟨b, o, h1, cell_below hb h2, h3⟩,
   fun k v e => by obtain ⟨b, o, h1, h2, h3⟩ := h.fGaps k v e; exact ⟨b, o, h1, cell_below hb h2, h3⟩,
   fun k v e => by obtain ⟨b, o, h1, h2⟩ := h.fRst k v e; exact ⟨b, o, h1, cell_below hb h2⟩,
   fun u r e k v e' => by obtain ⟨b, o, h1, h2, h3⟩ := h.fRow u r e k v e'; exact ⟨b, o, h1, cell_below hb h2, h3⟩,
   fun k v e => by obtain ⟨b, o, h1, h2, h3⟩ := h.fEnts k v e; exact ⟨b, o, h1, cell_below hb h2, h3⟩⟩

theorem info3 : (Yba.prog.info? 3).map (fun i => (i.zero, i.size, i.bytes)) = some (some (.int .i64 0), 1, 8) := by kernel_rfl
theorem info26 : (Yba.prog.info? 26).map (fun i => (i.zero, i.size, i.bytes)) = some (some (.int .u32 0), 1, 4) := by kernel_rfl
theorem info23 : (Yba.prog.info? 23).map (fun i => (i.zero, i.size, i.bytes)) = some (some (.slice none 0 0), 1, 24) := by kernel_rfl
theorem info76 : (Yba.prog.info? 76).map (fun i => (i.zero, i.size, i.bytes)) = some (some (.agg #[.int .i64 0, .int .u32 0, .int .i64 0, .int .i64 0]), 4, 32) := by kernel_rfl

/-- make([]int, n). -/
theorem make_ints (n : Nat) (hn : n ≤ 2048) (w : World) :
    (Instr.makeSlice 57 (.int .i64 n) (.int .i64 n)).run Yba.prog w = .ok (.slice (some ⟨w.heap.size, 0, none⟩) n n) (w.alloc (.cells (List.replicate n (Value.int .i64 0)).toArray 3)) := by
  obtain ⟨i0, hi, hz0, hz1, hz2⟩ := info_parts info3
  have h := run_make (P := Yba.prog) w 57 3 i0 (.int .i64 0) Yba.underlying57 hi hz0 .i64 .i64 (n : Int) (n : Int) (by omega) (by omega) (by rw [hz2]; omega) (by omega)
  rw [hz1] at h
  simpa [Value.cells, made_replicate] using h
/-- make([]int, 2*n). -/
theorem make_nodes (n : Nat) (hn : n ≤ 1024) (w : World) :
    (Instr.makeSlice 57 (.int .i64 (2 * (n : Int))) (.int .i64 (2 * (n : Int)))).run Yba.prog w = .ok (.slice (some ⟨w.heap.size, 0, none⟩) (2 * n) (2 * n)) (w.alloc (.cells (List.replicate (2 * n) (Value.int .i64 0)).toArray 3)) := by
  have h := make_ints (2 * n) (by omega) w
  rw [show ((2 * n : Nat) : Int) = 2 * (n : Int) by omega] at h
  exact h
/-- make([][]uint32, n). -/
theorem make_rs (n : Nat) (hn : n ≤ 1024) (w : World) :
    (Instr.makeSlice 77 (.int .i64 n) (.int .i64 n)).run Yba.prog w = .ok (.slice (some ⟨w.heap.size, 0, none⟩) n n) (w.alloc (.cells (List.replicate n (Value.slice none 0 0)).toArray 23)) := by
  obtain ⟨i0, hi, hz0, hz1, hz2⟩ := info_parts info23
  have h := run_make (P := Yba.prog) w 77 23 i0 (.slice none 0 0) Yba.underlying77 hi hz0 .i64 .i64 (n : Int) (n : Int) (by omega) (by omega) (by rw [hz2]; omega) (by omega)
  rw [hz1] at h
  simpa [Value.cells, made_replicate] using h
/-- make([]uint32, 0, n+1). -/
theorem make_row (n : Nat) (hn : n ≤ 1024) (w : World) :
    (Instr.makeSlice 23 (.int .i64 0) (.int .i64 ((n : Int) + 1))).run Yba.prog w = .ok (.slice (some ⟨w.heap.size, 0, none⟩) 0 (n + 1)) (w.alloc (.cells (List.replicate (n + 1) (Value.int .u32 0)).toArray 26)) := by
  obtain ⟨i0, hi, hz0, hz1, hz2⟩ := info_parts info26
  have h := run_make (P := Yba.prog) w 23 26 i0 (.int .u32 0) Yba.underlying23 hi hz0 .i64 .i64 0 ((n + 1 : Nat) : Int) (by omega) (by omega) (by rw [hz2]; omega) (by omega)
  rw [hz1] at h
  simpa [Value.cells, made_replicate] using h
/-- The cells of fresh lines. -/
def zl (n : Nat) : List Value := (madeCells #[.int .i64 0, .int .u32 0, .int .i64 0, .int .i64 0] (n * 4)).toList
theorem zl_length (n : Nat) : (zl n).length = n * 4 := by simp [zl, madeCells]
/-- make([]pooled, n+1). -/
theorem make_lines (n : Nat) (hn : n ≤ 2048) (w : World) :
    (Instr.makeSlice 74 (.int .i64 ((n : Int) + 1)) (.int .i64 ((n : Int) + 1))).run Yba.prog w = .ok (.slice (some ⟨w.heap.size, 0, none⟩) (n + 1) (n + 1)) (w.alloc (.cells (zl (n + 1)).toArray 76)) := by
  obtain ⟨i0, hi, hz0, hz1, hz2⟩ := info_parts info76
  have h := run_make (P := Yba.prog) w 74 76 i0 _ Yba.underlying74 hi hz0 .i64 .i64 ((n + 1 : Nat) : Int) ((n + 1 : Nat) : Int) (by omega) (by omega) (by rw [hz2]; omega) (by omega)
  rw [hz1] at h
  simpa [Value.cells, zl] using h

/-- The lines so far, in their cells. -/
structure LnAt (cs : List Value) (ls : List (Int × Int)) : Prop where
  at0 : ∀ (j : Nat) (l : Int × Int), ls[j]? = some l → cs[j * 4]? = some (.int .i64 l.1) ∧ cs[j * 4 + 1]? = some (.int .u32 l.2) ∧ cs[j * 4 + 2]? = some (.int .i64 0) ∧ 0 ≤ l.1 ∧ l.1 ≤ 2 * j ∧ 0 ≤ l.2 ∧ l.2 < 3
theorem LnAt.next {cs : List Value} {ls : List (Int × Int)} (h : LnAt cs ls) {ln id : Int} {j : Nat} (hj : ls.length = j) (hc : j * 4 + 3 < cs.length) (h1 : 0 ≤ ln) (h2 : ln ≤ 2 * j) (h3 : 0 ≤ id) (h4 : id < 3) (u : Value) :
    LnAt ((((cs.set (j * 4) (.int .i64 ln)).set (j * 4 + 1) (.int .u32 id)).set (j * 4 + 2) (.int .i64 0)).set (j * 4 + 3) u) (ls ++ [(ln, id)]) := by
  refine ⟨fun i l hl => ?_⟩
  rcases Nat.lt_or_ge i ls.length with hi | hi
  · rw [List.getElem?_append_left hi] at hl
    obtain ⟨g0, g1, g2, g3⟩ := h.at0 i l hl
    simp only [List.getElem?_set_ne (show j * 4 + 3 ≠ i * 4 by omega), List.getElem?_set_ne (show j * 4 + 2 ≠ i * 4 by omega), List.getElem?_set_ne (show j * 4 + 1 ≠ i * 4 by omega), List.getElem?_set_ne (show j * 4 ≠ i * 4 by omega),
      List.getElem?_set_ne (show j * 4 + 3 ≠ i * 4 + 1 by omega), List.getElem?_set_ne (show j * 4 + 2 ≠ i * 4 + 1 by omega), List.getElem?_set_ne (show j * 4 + 1 ≠ i * 4 + 1 by omega), List.getElem?_set_ne (show j * 4 ≠ i * 4 + 1 by omega),
      List.getElem?_set_ne (show j * 4 + 3 ≠ i * 4 + 2 by omega), List.getElem?_set_ne (show j * 4 + 2 ≠ i * 4 + 2 by omega), List.getElem?_set_ne (show j * 4 + 1 ≠ i * 4 + 2 by omega), List.getElem?_set_ne (show j * 4 ≠ i * 4 + 2 by omega)]
    exact ⟨g0, g1, g2, g3⟩
  · have e : i = j := by
      have := (List.getElem?_eq_some_iff.1 hl).1
      simp at this; omega
    subst e
    rw [List.getElem?_append_right hi, show i - ls.length = 0 by omega] at hl
    simp at hl
    subst hl
    refine ⟨?_, ?_, ?_, h1, h2, h3, h4⟩
    · rw [List.getElem?_set_ne (by omega), List.getElem?_set_ne (by omega), List.getElem?_set_ne (by omega), List.getElem?_set_self (by omega)]
    · rw [List.getElem?_set_ne (by omega), List.getElem?_set_ne (by omega), List.getElem?_set_self (by simp; omega)]
    · rw [List.getElem?_set_ne (by omega), List.getElem?_set_self (by simp; omega)]
theorem LnAt.lines {w : World} {gL : Nat} {cs : List Value} {ls : List (Int × Int)} (h : LnAt cs ls) (hr : RowAt w gL 76 cs) (hl : ls.length ≤ 2049) : LinesAt w gL ls :=
  ⟨fun j l e => by rw [hr.cell]; exact (h.at0 j l e).1, fun j l e => by rw [hr.cell]; exact (h.at0 j l e).2.1, fun j l e => by rw [hr.cell]; exact (h.at0 j l e).2.2.1, hl, fun j l e => (h.at0 j l e).2.2.2⟩
end Go.Proofs.Ybulkcwnq
