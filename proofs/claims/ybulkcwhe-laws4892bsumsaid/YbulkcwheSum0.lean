import Derived.Test.YbulkcwheCmp
import Derived.Deep.CutBlock
namespace Go.Proofs.Ybulkcwhe
open Go.RowKit

set_option maxHeartbeats 400000 in
/-- (*Int).Sign of one that is not negative. -/
theorem sign_any (B g : Nat) (ws : List Int) (w : World) (h : IntR w B g ws) : Calls Yba.prog 13 #[.pointer (some ⟨g, 0, none⟩)] w fun e w' => ∃ n : Int, e = .returned (.int .i64 n) ∧ 0 ≤ n ∧ w' = w := by
  obtain ⟨_, a, c, r, hc, hlc, _⟩ := h
  have x0 : w.cell? ⟨g, 0, none⟩ = some (.bool false) := by rw [r.cell]; rfl
  have x1 : w.cell? ⟨g, 1, none⟩ = some (.slice a ws.length c) := by rw [r.cell]; rfl
  clear r
  obtain ⟨n, hn⟩ : ∃ n, ws.length = n := ⟨_, rfl⟩
  rw [hn] at x1
  clear hn hlc
  by_cases hz : n = 0
  · subst hz
    go_enter Yba.func13, Yba.ntmps13
    go_wp2
    go_ret
    exact ⟨0, rfl, by omega, rfl⟩
  · have hz' : ((n : Int) == 0) = false := by simp; omega
    go_enter Yba.func13, Yba.ntmps13
    go_wp2
    go_ret
    exact ⟨1, rfl, by omega, rfl⟩
set_option maxHeartbeats 400000 in
/-- (*Int).Bits. -/
theorem bits_any (g : Nat) (a : Option Addr) (l c : Nat) (w : World) (r : RowAt w g 68 [.bool false, .slice a l c]) : Calls Yba.prog 14 #[.pointer (some ⟨g, 0, none⟩)] w fun e w' => e = .returned (.slice a l c) ∧ w' = w := by
  have x1 : w.cell? ⟨g, 1, none⟩ = some (.slice a l c) := by rw [r.cell]; rfl
  clear r
  go_enter Yba.func14, Yba.ntmps14
  go_wp2
  go_ret
  exact ⟨rfl, rfl⟩

/-- The three words of the sum. -/
def s0W (x0 y0 : Int) : Int := (x0 + y0) % 18446744073709551616
def s1W (x0 x1 y0 y1 : Int) : Int := (x1 + y1 + (x0 + y0) / 18446744073709551616) % 18446744073709551616
def s2W (x0 x1 y0 y1 : Int) : Int := (x1 + y1 + (x0 + y0) / 18446744073709551616) / 18446744073709551616

theorem wN_words {lo hi : Int} (a : Word lo) (b : Word hi) : (∀ v ∈ wN lo hi, Word v) ∧ (wN lo hi).length ≤ 2 := by
  rcases wN_cases lo hi with ⟨_, _, e⟩ | ⟨_, _, e⟩ | ⟨_, e⟩ <;> rw [e] <;> simp [a, b]
theorem addW_ne {x0 x1 y0 y1 : Int} (a : Word x0) (b : Word x1) (c : Word y0) (d : Word y1) (hx : wN x0 x1 ≠ []) : addW (wN x0 x1) (wN y0 y1) ≠ [] := by
  rw [addW_wN x0 x1 y0 y1 a b c d]
  intro h
  have h0 := nrm_nil h
  obtain ⟨a1, a2⟩ := a; obtain ⟨b1, b2⟩ := b; obtain ⟨c1, c2⟩ := c; obtain ⟨d1, d2⟩ := d
  have e0 := h0 _ (List.mem_cons_self ..)
  have e1 := h0 _ (List.mem_cons_of_mem _ (List.mem_cons_self ..))
  have e2 := h0 _ (List.mem_cons_of_mem _ (List.mem_cons_of_mem _ (List.mem_cons_self ..)))
  rcases wN_cases x0 x1 with ⟨_, _, e⟩ | ⟨hx0, _, e⟩ | ⟨hx1, e⟩
  · exact hx e
  · omega
  · omega

theorem field_large (s : Int) (p : Option Addr) (w : World) : (Instr.field 31 (.agg #[.int .u64 s, .pointer p]) 1).run Yba.prog w = .ok (.pointer p) w := by kernel_rfl

/-- Cmp with the number made anew. -/
theorem cmp_after {wr w7 : World} {g gz' : Nat} {ws : List Int} (j : IntR wr 0 g ws) (hl : ws.length ≤ 2) (i7 : IntR w7 wr.drew.heap.size gz' ws) (b7 : Below wr.drew.heap.size wr.drew w7) :
    Calls Yba.prog 15 #[.pointer (some ⟨g, 0, none⟩), .pointer (some ⟨gz', 0, none⟩)] w7 fun e w' => e = .returned (.int .i64 0) ∧ Below wr.heap.size wr w' := by
  have b : Below wr.heap.size wr w7 := ⟨b7.os, b7.tape, b7.output, b7.size, b7.block⟩
  have h1 : wr.heap.size ≤ gz' := i7.1
  have h2 := j.lt
  exact (icmp_any 0 _ g gz' ws w7 (by omega) hl (j.later b) i7).mono fun e w' ⟨he, h⟩ => ⟨he, b.trans (h.mono b.size)⟩
theorem cell_after {wr w7 : World} {b : Nat} {v : Value} (b7 : Below wr.drew.heap.size wr.drew w7) (hb : b < wr.heap.size) (h : wr.cell? ⟨b, 1, none⟩ = some v) : w7.cell? ⟨b, 1, none⟩ = some v := (b7.cell (p := ⟨b, 1, none⟩) hb).trans h

/-- What is known when the sum is made. -/
structure Made (w W : World) (bx by' br gr : Nat) (px py : Option Addr) (sx sy : Int) (X Y R : List Int) : Prop where
  bel : Below w.heap.size w W
  rx : RowAt W bx 31 [.int .u64 sx, .pointer px]
  ry : RowAt W by' 31 [.int .u64 sy, .pointer py]
  rr : RowAt W br 31 [.int .u64 0, .pointer (some ⟨gr, 0, none⟩)]
  nx : px = none ∨ ∃ gx, px = some ⟨gx, 0, none⟩ ∧ gx ≠ gr ∧ IntR W 0 gx X
  ny : py = none ∨ ∃ gy, py = some ⟨gy, 0, none⟩ ∧ gy ≠ gr ∧ IntR W 0 gy Y
  nr : IntR W 0 gr R

end Go.Proofs.Ybulkcwhe
