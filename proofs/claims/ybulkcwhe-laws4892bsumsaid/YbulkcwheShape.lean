import Derived.Test.YbulkcwheInt
namespace Go.Proofs.Ybulkcwhe
open Go.RowKit

/-! ### PLAIN: words of a number -/
def nrm (xs : List Int) : List Int := xs.take (normLen xs xs.length)
def one (x : Int) : List Int := if x = 0 then [] else [x]
def wN (lo hi : Int) : List Int := if hi = 0 then one lo else [lo, hi]
def addW : List Int → List Int → List Int
  | [], ys => ys
  | x :: xs, [] => x :: xs
  | [x0], [y0] => nrm [(x0 + y0) % 18446744073709551616, (x0 + y0) / 18446744073709551616]
  | [x0, x1], [y0] => nrm [(x0 + y0) % 18446744073709551616, (x1 + (x0 + y0) / 18446744073709551616) % 18446744073709551616, (x1 + (x0 + y0) / 18446744073709551616) / 18446744073709551616]
  | [x0], [y0, y1] => nrm [(x0 + y0) % 18446744073709551616, (y1 + (x0 + y0) / 18446744073709551616) % 18446744073709551616, (y1 + (x0 + y0) / 18446744073709551616) / 18446744073709551616]
  | [x0, x1], [y0, y1] => nrm [(x0 + y0) % 18446744073709551616, (x1 + y1 + (x0 + y0) / 18446744073709551616) % 18446744073709551616, (x1 + y1 + (x0 + y0) / 18446744073709551616) / 18446744073709551616]
  | _, _ => []

theorem normLen_append (xs rest : List Int) (n : Nat) (h : n ≤ xs.length) : normLen (xs ++ rest) n = normLen xs n := by
  induction n with
  | zero => rfl
  | succ n ih =>
    unfold normLen
    rw [List.getElem?_append_left (by omega), ih (by omega)]
theorem nrm_length (xs : List Int) : (nrm xs).length = normLen xs xs.length := by
  unfold nrm; rw [List.length_take, Nat.min_eq_left (normLen_le xs xs.length)]

def Word (x : Int) : Prop := 0 ≤ x ∧ x < 18446744073709551616
theorem nrm_zero (a b : Int) : nrm [a, b, 0] = wN a b := by
  unfold wN one
  by_cases hb : b = 0
  · by_cases ha : a = 0 <;> simp [nrm, normLen, ha, hb]
  · simp [nrm, normLen, hb]
theorem nrm_zero2 (a b : Int) : nrm [a, b, 0] = nrm [a, b] := by
  by_cases hb : b = 0
  · by_cases ha : a = 0 <;> simp [nrm, normLen, ha, hb]
  · simp [nrm, normLen, hb]
theorem wN_cases (lo hi : Int) : (lo = 0 ∧ hi = 0 ∧ wN lo hi = []) ∨ (lo ≠ 0 ∧ hi = 0 ∧ wN lo hi = [lo]) ∨ (hi ≠ 0 ∧ wN lo hi = [lo, hi]) := by
  unfold wN one
  by_cases hb : hi = 0
  · by_cases ha : lo = 0 <;> simp [ha, hb]
  · simp [hb]
/-- The sum of two numbers of two words each, word by word. -/
theorem addW_wN (x0 x1 y0 y1 : Int) (a : Word x0) (b : Word x1) (c : Word y0) (d : Word y1) :
    addW (wN x0 x1) (wN y0 y1) = nrm [(x0 + y0) % 18446744073709551616, (x1 + y1 + (x0 + y0) / 18446744073709551616) % 18446744073709551616, (x1 + y1 + (x0 + y0) / 18446744073709551616) / 18446744073709551616] := by
  obtain ⟨a1, a2⟩ := a; obtain ⟨b1, b2⟩ := b; obtain ⟨c1, c2⟩ := c; obtain ⟨d1, d2⟩ := d
  rcases wN_cases x0 x1 with ⟨rfl, rfl, ex⟩ | ⟨hx0, rfl, ex⟩ | ⟨hx1, ex⟩
  · rw [ex]
    have e1 : (0 + y0) % 18446744073709551616 = y0 := by omega
    have e2 : (0 + y0) / 18446744073709551616 = 0 := by omega
    have e3 : (0 + y1 + 0) % 18446744073709551616 = y1 := by omega
    have e4 : (0 + y1 + 0) / 18446744073709551616 = 0 := by omega
    rw [e1, e2, e3, e4, nrm_zero]
    simp [addW]
  · rcases wN_cases y0 y1 with ⟨rfl, rfl, ey⟩ | ⟨hy0, rfl, ey⟩ | ⟨hy1, ey⟩
    · have e1 : (x0 + 0) % 18446744073709551616 = x0 := by omega
      have e2 : (x0 + 0) / 18446744073709551616 = 0 := by omega
      rw [e1, e2, show ((0 : Int) + 0 + 0) % 18446744073709551616 = 0 by decide, show ((0 : Int) + 0 + 0) / 18446744073709551616 = 0 by decide, nrm_zero, ex, ey]
      simp [addW]
    · rw [ex, ey]
      simp only [addW]
      have e5 : (0 + 0 + (x0 + y0) / 18446744073709551616) % 18446744073709551616 = (x0 + y0) / 18446744073709551616 := by omega
      have e6 : (0 + 0 + (x0 + y0) / 18446744073709551616) / 18446744073709551616 = 0 := by omega
      rw [e5, e6, nrm_zero2]
    · rw [ex, ey]
      simp only [addW, Int.zero_add]
  · rcases wN_cases y0 y1 with ⟨rfl, rfl, ey⟩ | ⟨hy0, rfl, ey⟩ | ⟨hy1, ey⟩
    · have e1 : (x0 + 0) % 18446744073709551616 = x0 := by omega
      have e2 : (x0 + 0) / 18446744073709551616 = 0 := by omega
      have e3 : (x1 + 0 + 0) % 18446744073709551616 = x1 := by omega
      have e4 : (x1 + 0 + 0) / 18446744073709551616 = 0 := by omega
      rw [e1, e2, e3, e4, nrm_zero, ex, ey]
      simp [addW]
    · rw [ex, ey]
      simp only [addW, Int.add_zero]
    · rw [ex, ey]
      simp only [addW]

/-! ### NATS AND INTS IN MEMORY -/
/-- A nat that the call itself made, at blocks from B on: its shape by its number of words. -/
def NatS (w : World) (B : Nat) (a : Option Addr) (c : Nat) : List Int → Prop
  | [] => a = none ∧ c = 0
  | [x] => ∃ g, B ≤ g ∧ a = some ⟨g, 0, none⟩ ∧ c = 1 ∧ RowAt w g 41 (wordsV [x])
  | [x0, x1] => ∃ g r rest, B ≤ g ∧ a = some ⟨g, 0, none⟩ ∧ c = 3 + rest.length ∧ c ≤ 7 ∧ RowAt w g 41 (wordsV (x0 :: x1 :: r :: rest))
  | _ => False
def IntS (w : World) (B gz : Nat) (ws : List Int) : Prop := B ≤ gz ∧ ∃ a c, RowAt w gz 68 [.bool false, .slice a ws.length c] ∧ NatS w B a c ws
/-- An Int that is read. -/
def IntR (w : World) (B gz : Nat) (ws : List Int) : Prop := B ≤ gz ∧ ∃ a c, RowAt w gz 68 [.bool false, .slice a ws.length c] ∧ c ≤ 7 ∧ ws.length ≤ c ∧
  ((ws = [] ∧ a = none ∧ c = 0) ∨ (ws ≠ [] ∧ ∃ g rest, B ≤ g ∧ a = some ⟨g, 0, none⟩ ∧ RowAt w g 41 (wordsV (ws ++ rest))))

theorem NatS.later {w w' : World} {B : Nat} {a : Option Addr} {c : Nat} {ws : List Int} (h : NatS w B a c ws) (hb : Below w.heap.size w w') : NatS w' B a c ws := by
  match ws, h with
  | [], h => exact h
  | [x], ⟨g, h1, h2, h3, h4⟩ => exact ⟨g, h1, h2, h3, h4.below hb h4.lt⟩
  | [x0, x1], ⟨g, r, rest, h1, h2, h3, h4, h5⟩ => exact ⟨g, r, rest, h1, h2, h3, h4, h5.below hb h5.lt⟩
theorem NatS.mono {w : World} {B B' : Nat} {a : Option Addr} {c : Nat} {ws : List Int} (h : NatS w B a c ws) (hB : B' ≤ B) : NatS w B' a c ws := by
  match ws, h with
  | [], h => exact h
  | [x], ⟨g, h1, h⟩ => exact ⟨g, by omega, h⟩
  | [x0, x1], ⟨g, r, rest, h1, h⟩ => exact ⟨g, r, rest, by omega, h⟩
theorem IntS.later {w w' : World} {B gz : Nat} {ws : List Int} (h : IntS w B gz ws) (hb : Below w.heap.size w w') : IntS w' B gz ws := by
  obtain ⟨h1, a, c, h2, h3⟩ := h
  exact ⟨h1, a, c, h2.below hb h2.lt, h3.later hb⟩
theorem IntS.mono {w : World} {B B' gz : Nat} {ws : List Int} (h : IntS w B gz ws) (hB : B' ≤ B) : IntS w B' gz ws := by
  obtain ⟨h1, a, c, h2, h3⟩ := h
  exact ⟨by omega, a, c, h2, h3.mono hB⟩
theorem IntR.later {w w' : World} {B gz : Nat} {ws : List Int} (h : IntR w B gz ws) (hb : Below w.heap.size w w') : IntR w' B gz ws := by
  obtain ⟨h1, a, c, h2, h3, h4, h5⟩ := h
  refine ⟨h1, a, c, h2.below hb h2.lt, h3, h4, ?_⟩
  rcases h5 with h5 | ⟨hn, g, rest, h5, h6, h7⟩
  · exact .inl h5
  · exact .inr ⟨hn, g, rest, h5, h6, h7.below hb h7.lt⟩
theorem IntR.mono {w : World} {B B' gz : Nat} {ws : List Int} (h : IntR w B gz ws) (hB : B' ≤ B) : IntR w B' gz ws := by
  obtain ⟨h1, a, c, h2, h3, h4, h5⟩ := h
  refine ⟨by omega, a, c, h2, h3, h4, ?_⟩
  rcases h5 with h5 | ⟨hn, g, rest, h5, h6⟩
  · exact .inl h5
  · exact .inr ⟨hn, g, rest, by omega, h6⟩
theorem IntS.lt {w : World} {B gz : Nat} {ws : List Int} (h : IntS w B gz ws) : gz < w.heap.size := by obtain ⟨_, a, c, h2, _⟩ := h; exact h2.lt
theorem IntR.lt {w : World} {B gz : Nat} {ws : List Int} (h : IntR w B gz ws) : gz < w.heap.size := by obtain ⟨_, a, c, h2, _⟩ := h; exact h2.lt

/-- (*Int).SetUint64 of a new Int. -/
theorem isetU_any (B gz : Nat) (x : Int) (w : World) (hB : B ≤ gz) (rz : RowAt w gz 68 [.bool false, .slice none 0 0]) :
    Calls Yba.prog 22 #[.pointer (some ⟨gz, 0, none⟩), .int .u64 x] w fun e w' => e = .returned (.pointer (some ⟨gz, 0, none⟩)) ∧ IntS w' B gz (one x) ∧ Below B w w' := by
  have lz := rz.lt
  by_cases hx : x = 0
  · subst hx
    refine (isetU_zero gz w rz).mono fun e w' ⟨he, r, k⟩ => ⟨he, ⟨hB, none, 0, r, rfl, rfl⟩, k.below (fun j hj => by simp at hj; omega) (by omega)⟩
  · refine (isetU_one gz x (by simpa using hx) w rz).mono fun e w' ⟨he, r, ra, k⟩ => ⟨he, ?_, k.below (fun j hj => by simp at hj; omega) (by omega)⟩
    have e1 : one x = [x] := by simp [one, hx]
    rw [e1]
    exact ⟨hB, _, 1, r, w.heap.size, by omega, rfl, rfl, ra⟩

/-- (*Int).Set of a new Int. -/
theorem iset_any (B gz gx B' : Nat) (ws : List Int) (w : World) (hB : B ≤ gz) (hne : gz ≠ gx) (hlen : ws.length ≤ 2) (rz : RowAt w gz 68 [.bool false, .slice none 0 0]) (hx : IntR w B' gx ws) :
    Calls Yba.prog 38 #[.pointer (some ⟨gz, 0, none⟩), .pointer (some ⟨gx, 0, none⟩)] w fun e w' => e = .returned (.pointer (some ⟨gz, 0, none⟩)) ∧ IntS w' B gz ws ∧ Below B w w' := by
  have lz := rz.lt
  obtain ⟨_, a, c, rx, hc, hlc, hrow⟩ := hx
  have fin : ∀ {w1 w' : World} {v : Value}, Keep [] w w1 → w' = (w1.setCell ⟨gz, 1, none⟩ v).setCell ⟨gz, 0, none⟩ (.bool false) → RowAt w' gz 68 [.bool false, v] ∧ Below B w w' := fun {w1 w' v} k hw => by
    subst hw
    have r1 := rz.keep k (by simp)
    refine ⟨(r1.set 1 v).set 0 (.bool false), ?_⟩
    exact (((k.below (B := B) (fun j hj => by simp at hj) (by omega)).setCell (by simpa using hB) _).setCell (by simpa using hB) _)
  match ws, hlen, hrow with
  | [], _, hrow =>
    have ha : a = none ∧ c = 0 := by
      rcases hrow with ⟨_, h1, h2⟩ | ⟨hn, _⟩
      · exact ⟨h1, h2⟩
      · exact absurd rfl hn
    obtain ⟨rfl, rfl⟩ := ha
    have h := iset_gen gz gx none none 0 0 0 0 (fun _ => True) w hne rz rx ((nset_nil w.drew).mono fun e w' ⟨he, hw⟩ => ⟨he, trivial, by rw [hw]; exact (Keep.refl [] w).drew⟩)
    refine h.mono fun e w' ⟨he, w1, _, k, hw⟩ => ?_
    obtain ⟨h1, h2⟩ := fin k hw
    exact ⟨he, ⟨hB, none, 0, h1, rfl, rfl⟩, h2⟩
  | [x0], _, hrow =>
    obtain ⟨g, rest, rfl, hr⟩ : ∃ g rest, a = some ⟨g, 0, none⟩ ∧ RowAt w g 41 (wordsV (x0 :: rest)) := by
      rcases hrow with ⟨h0, _⟩ | ⟨_, g, rest, _, h1, h2⟩
      · simp at h0
      · exact ⟨g, rest, h1, h2⟩
    have h := iset_gen gz gx (some ⟨g, 0, none⟩) (some ⟨w.heap.size, 0, none⟩) 1 c 1 1 (fun w' => RowAt w' w.heap.size 41 (wordsV [x0])) w hne rz rx ((nset_one g c rest x0 w.drew hr.drew).mono fun e w' ⟨he, h1, h2⟩ => ⟨he, h1, ⟨h2.os, h2.tape, h2.output, h2.size, h2.block⟩⟩)
    refine h.mono fun e w' ⟨he, w1, r1, k, hw⟩ => ?_
    obtain ⟨h1, h2⟩ := fin k hw
    refine ⟨he, ⟨hB, _, 1, h1, w.heap.size, by omega, rfl, rfl, ?_⟩, h2⟩
    rw [hw]
    exact (r1.other (show w.heap.size ≠ gz by omega) _).other (show w.heap.size ≠ gz by omega) _
  | [x0, x1], _, hrow =>
    obtain ⟨g, rest, rfl, hr⟩ : ∃ g rest, a = some ⟨g, 0, none⟩ ∧ RowAt w g 41 (wordsV (x0 :: x1 :: rest)) := by
      rcases hrow with ⟨h0, _⟩ | ⟨_, g, rest, _, h1, h2⟩
      · simp at h0
      · exact ⟨g, rest, h1, h2⟩
    have h := iset_gen gz gx (some ⟨g, 0, none⟩) (some ⟨w.heap.size, 0, none⟩) 2 c 2 6 (fun w' => RowAt w' w.heap.size 41 (wordsV [x0, x1, 0, 0, 0, 0])) w hne rz rx ((nset_two g c rest x0 x1 w.drew hr.drew).mono fun e w' ⟨he, h1, h2⟩ => ⟨he, h1, ⟨h2.os, h2.tape, h2.output, h2.size, h2.block⟩⟩)
    refine h.mono fun e w' ⟨he, w1, r1, k, hw⟩ => ?_
    obtain ⟨h1, h2⟩ := fin k hw
    refine ⟨he, ⟨hB, _, 6, h1, w.heap.size, 0, [0, 0, 0], by omega, rfl, by simp, by omega, ?_⟩, h2⟩
    rw [hw]
    exact (r1.other (show w.heap.size ≠ gz by omega) _).other (show w.heap.size ≠ gz by omega) _

/-- (*Int).Lsh(z, z, 64) of an Int of one word at most. -/
theorem ilsh_any (B gz : Nat) (x : Int) (w : World) (hz : IntS w B gz (one x)) :
    Calls Yba.prog 23 #[.pointer (some ⟨gz, 0, none⟩), .pointer (some ⟨gz, 0, none⟩), .int .u64 64] w fun e w' => e = .returned (.pointer (some ⟨gz, 0, none⟩)) ∧ IntS w' B gz (if x = 0 then [] else [0, x]) ∧ Below B w w' := by
  obtain ⟨hB, a, c, rz, hn⟩ := hz
  have lz := rz.lt
  have fin : ∀ {w1 w' : World} {v : Value}, Keep [] w w1 → w' = (w1.setCell ⟨gz, 1, none⟩ v).setCell ⟨gz, 0, none⟩ (.bool false) → RowAt w' gz 68 [.bool false, v] ∧ Below B w w' := fun {w1 w' v} k hw => by
    subst hw
    have r1 := rz.keep k (by simp)
    refine ⟨(r1.set 1 v).set 0 (.bool false), ?_⟩
    exact (((k.below (B := B) (fun j hj => by simp at hj) (by omega)).setCell (by simpa using hB) _).setCell (by simpa using hB) _)
  by_cases hx : x = 0
  · subst hx
    have e1 : one 0 = [] := rfl
    rw [e1] at hn rz
    obtain ⟨rfl, rfl⟩ := hn
    have h := ilsh_gen gz none none 0 0 0 0 (fun _ => True) w rz ((lsh_nil w.drew).mono fun e w' ⟨he, hw⟩ => ⟨he, trivial, by rw [hw]; exact (Keep.refl [] w).drew⟩)
    refine h.mono fun e w' ⟨he, w1, _, k, hw⟩ => ?_
    obtain ⟨h1, h2⟩ := fin k hw
    exact ⟨he, ⟨hB, none, 0, h1, rfl, rfl⟩, h2⟩
  · have e1 : one x = [x] := by simp [one, hx]
    rw [e1] at hn rz
    obtain ⟨g, hg, rfl, rfl, hr⟩ := hn
    have h := ilsh_gen gz (some ⟨g, 0, none⟩) (some ⟨w.heap.size, 0, none⟩) 1 1 2 7 (fun w' => RowAt w' w.heap.size 41 (wordsV [0, x, 0, 0, 0, 0, 0])) w rz ((lsh_one g x (by simpa using hx) w.drew hr.drew).mono fun e w' ⟨he, h1, h2⟩ => ⟨he, h1, ⟨h2.os, h2.tape, h2.output, h2.size, h2.block⟩⟩)
    refine h.mono fun e w' ⟨he, w1, r1, k, hw⟩ => ?_
    obtain ⟨h1, h2⟩ := fin k hw
    rw [if_neg hx]
    refine ⟨he, ⟨hB, _, 7, h1, w.heap.size, 0, [0, 0, 0, 0], by omega, rfl, by simp, by omega, ?_⟩, h2⟩
    rw [hw]
    exact (r1.other (show w.heap.size ≠ gz by omega) _).other (show w.heap.size ≠ gz by omega) _

theorem nrm_nil {xs : List Int} (h : nrm xs = []) : ∀ v ∈ xs, v = 0 := by
  have key : ∀ n, n ≤ xs.length → normLen xs n = 0 → ∀ i, i < n → xs[i]?.getD 0 = 0 := by
    intro n
    induction n with
    | zero => intro _ _ i hi; omega
    | succ n ih =>
      intro hn h i hi
      unfold normLen at h
      split at h
      · rename_i h0
        by_cases e : i = n
        · subst e; exact h0
        · exact ih (by omega) h i (by omega)
      · omega
  have h0 : normLen xs xs.length = 0 := by rw [← nrm_length, h]; rfl
  intro v hv
  obtain ⟨i, hi, rfl⟩ := List.getElem_of_mem hv
  have := key xs.length (Nat.le_refl _) h0 i hi
  simpa [List.getElem?_eq_getElem hi] using this

/-- The row behind nat.norm, as words and rest. -/
theorem row_nrm {w : World} {g : Nat} (xs rest : List Int) (h : RowAt w g 41 (wordsV (xs ++ rest))) : RowAt w g 41 (wordsV (nrm xs ++ (xs.drop (normLen xs xs.length) ++ rest))) := by
  rw [← List.append_assoc]
  unfold nrm
  rw [List.take_append_drop]
  exact h
end Go.Proofs.Ybulkcwhe
