import Derived.Test.YbulkcwnqLaw1
namespace Go.Proofs.Ybulkcwnq
open Go.RowKit Go.Lib

/-- The lines' loop at j. -/
structure LnRel (w wr : World) (n j : Nat) (ln : Int) : Prop where
  b : Below w.heap.size w wr
  sz : wr.heap.size = w.heap.size + 1
  more : ∃ (cs : List Value) (ls : List (Int × Int)), ls.length = j ∧ RowAt wr w.heap.size 76 cs ∧ cs.length = (n + 1) * 4 ∧ LnAt cs ls
  ln0 : 0 ≤ ln
  ln1 : (j = 0 ∧ ln = 0) ∨ ln + 2 ≤ 2 * j
def set4 (w : World) (g o : Nat) (v0 v1 v2 v3 : Value) : World := (((w.setCell ⟨g, o, none⟩ v0).setCell ⟨g, o + 1, none⟩ v1).setCell ⟨g, o + 2, none⟩ v2).setCell ⟨g, o + 3, none⟩ v3
theorem RowAt.set4 {w : World} {g : Nat} {e : TypeId} {vs : List Value} (h : RowAt w g e vs) (o : Nat) (v0 v1 v2 v3 : Value) : RowAt (set4 w g o v0 v1 v2 v3) g e ((((vs.set o v0).set (o + 1) v1).set (o + 2) v2).set (o + 3) v3) := (((h.set o v0).set (o + 1) v1).set (o + 2) v2).set (o + 3) v3
theorem size_set (w : World) (a : Addr) (v : Value) : (w.setCell a v).heap.size = w.heap.size := by simp [World.setCell]
theorem LnRel.start (w : World) (n : Nat) : LnRel w (w.alloc (.cells (zl (n + 1)).toArray 76)) n 0 0 :=
  ⟨(Below.refl _ w).alloc (Nat.le_refl _) _, by simp, ⟨zl (n + 1), [], rfl, RowAt.new w 76 _, zl_length _, ⟨fun j l h => by simp at h⟩⟩, by omega, Or.inl ⟨rfl, rfl⟩⟩
theorem LnRel.next {w wr : World} {n j : Nat} {ln ln' id : Int} (h : LnRel w wr n j ln) (hj : j < n + 1) (h1 : 0 ≤ ln') (h2 : ln' ≤ 2 * j) (h3 : 0 ≤ id) (h4 : id < 3) (u : Value) :
    LnRel w (Ybulkcwnq.set4 wr w.heap.size (j * 4) (.int .i64 ln') (.int .u32 id) (.int .i64 0) u) n (j + 1) ln' := by
  obtain ⟨cs, ls, hl, hr, hc, hL⟩ := h.more
  have g := Nat.le_refl w.heap.size
  refine ⟨(((h.b.setCell g _).setCell g _).setCell g _).setCell g _, by simp [Ybulkcwnq.set4, h.sz], ⟨_, ls ++ [(ln', id)], by simp [hl], hr.set4 _ _ _ _ _, by simp [hc], hL.next hl (by omega) h1 h2 h3 h4 u⟩, h1, Or.inr (by omega)⟩

theorem owns_cells {w : World} {B e n : Nat} {v : Value} {xs : List Value} (h : w.ownsRow B e 1 v n xs) (hn : 0 < n) : ∃ g cap, v = .slice (some ⟨g, 0, none⟩) n cap ∧ B ≤ g ∧ g < w.heap.size ∧ ∀ (k : Nat) (y : Value), xs[k]? = some y → w.cell? ⟨g, k, none⟩ = some y := by
  obtain ⟨h1, h2⟩ := h
  rcases h2 with ⟨e, _⟩ | ⟨g, cap, cur, e, g1, g2, g3, g4, g5, g6⟩
  · omega
  · refine ⟨g, cap, e, g1, lt_of_block g2, fun k y hk => ?_⟩
    rw [← g6] at hk
    have hlt : k < n * 1 := by
      have := (List.getElem?_eq_some_iff.1 hk).1
      simp at this; omega
    rw [List.getElem?_take_of_lt hlt] at hk
    simpa [World.cell?, g2] using hk
theorem owns_made (w : World) (n : Nat) (hn : n ≤ 1024) : (w.alloc (.cells (List.replicate (n + 1) (Value.int .u32 0)).toArray 26)).ownsRow w.heap.size 26 1 (.slice (some ⟨w.heap.size, 0, none⟩) 0 (n + 1)) 0 [] := by
  refine ⟨rfl, Or.inr ⟨w.heap.size, n + 1, _, rfl, Nat.le_refl _, heap_alloc_new w _, ?_⟩⟩
  simp [maxLen]
  omega
/-- The rests' loop at u. -/
structure RsRel (w1 wr : World) (x0 : Int) (t u : Nat) : Prop where
  b : Below w1.heap.size w1 wr
  more : ∃ (rs : List Rw) (vals : List Value), rs.length = u ∧ RsAt wr w1.heap.size x0 t rs vals
theorem RsRel.start (w1 : World) (x0 : Int) (t : Nat) : RsRel w1 (w1.alloc (.cells (List.replicate t (Value.slice none 0 0)).toArray 23)) x0 t 0 :=
  ⟨(Below.refl _ w1).alloc (Nat.le_refl _) _, [], _, rfl, RowAt.new w1 23 _, by simp, fun i x h => by simp at h⟩
theorem u32V_some {xs : List Int} {i : Nat} {v : Int} (h : xs[i]? = some v) : (u32V xs)[i]? = some (.int .u32 v) := u32V_get h
theorem RsRel.next {w1 wr wq : World} {x0 : Int} {t u : Nat} (h : RsRel w1 wr x0 t u) (hu : u < t) (hb : Below wr.heap.size wr wq) {v : Value} {r : List Int} (hown : wq.ownsRow wr.heap.size 26 1 v r.length (u32V r)) (hl : r.length ≤ 1025) (hv : ∀ y ∈ r, 0 ≤ y ∧ y < 3) (h0 : r[0]? = some x0) :
    RsRel w1 (wq.setCell ⟨w1.heap.size, u, none⟩ v) x0 t (u + 1) := by
  obtain ⟨rs, vals, hrs, hR⟩ := h.more
  have hpos : 0 < r.length := (List.getElem?_eq_some_iff.1 h0).1
  obtain ⟨g, cap, e, hg, hgq, hc⟩ := owns_cells hown hpos
  have hS := hR.row.lt
  have C : ∀ (b o : Nat) (y : Value), w1.heap.size ≠ b → wq.cell? ⟨b, o, none⟩ = some y → (wq.setCell ⟨w1.heap.size, u, none⟩ v).cell? ⟨b, o, none⟩ = some y := fun b o y hne hy => by
    rw [World.cell?_setCell_other _ _ _ _ (by intro e'; simp only [Addr.mk.injEq] at e'; omega)]; exact hy
  refine ⟨(h.b.trans (hb.mono (by have := h.b.size; omega))).setCell (Nat.le_refl _) _, rs ++ [⟨g, cap, r⟩], vals.set u v, by simp [hrs], (hR.row.below hb hS).set u v, by simpa using hR.len, fun i x hx => ?_⟩
  rcases Nat.lt_or_ge i rs.length with hi | hi
  · rw [List.getElem?_append_left hi] at hx
    obtain ⟨g1, g2, g3, g4⟩ := hR.each i x hx
    have g3' := g3.below hb
    exact ⟨by rw [List.getElem?_set_ne (by omega)]; exact g1, g2, ⟨g3.len, g3.ids, fun k y hy => C _ _ _ (by omega) (g3'.cell k y hy)⟩, g4⟩
  · have ei : i = u := by
      have := (List.getElem?_eq_some_iff.1 hx).1
      simp at this; omega
    subst ei
    rw [List.getElem?_append_right hi, show i - rs.length = 0 by omega] at hx
    simp at hx
    subst hx
    exact ⟨by rw [List.getElem?_set_self (by rw [hR.len]; omega)]; exact congrArg some e, by simp only; omega, ⟨hl, hv, fun k y hy => C _ _ _ (by simp only; omega) (hc k _ (u32V_some hy))⟩, h0⟩

/-- The first n ids of a rest, behind the step's. -/
def modRow (x : Int) (xs : List Int) (n : Nat) : List Int := x :: (xs.take n).map (· % 3)
theorem take_mod (xs : List Int) {n : Nat} {z : Int} (h : xs[n]? = some z) (x : Int) : u32V (modRow x xs (n + 1)) = u32V (modRow x xs n) ++ [.int .u32 (z % 3)] := by
  unfold modRow
  obtain ⟨hn, rfl⟩ := List.getElem?_eq_some_iff.1 h
  rw [List.take_succ_eq_append_getElem hn]
  unfold u32V
  rw [List.map_append, ← List.cons_append, List.map_append]
  rfl
/-- What the law lays for rank. -/
abbrev lay (w6 : World) (gL n gS gI gF gT t : Nat) : World :=
  ((((((w6.alloc (.cells #[.slice (some ⟨gS, 0, none⟩) t t, .int .u64 0, .map none, .slice none 0 0, .slice none 0 0, .slice none 0 0, .slice none 0 0, .slice none 0 0] 88)).alloc
    (.cells #[.int .i64 0, .int .i64 t] 3)).alloc
    (.cells #[.slice none 0 0, .slice none 0 0, .slice none 0 0, .slice none 0 0, .pointer (some ⟨w6.heap.size, 0, none⟩), .slice (some ⟨gI, 0, none⟩) t t, .slice none 0 0, .slice none 0 0, .slice none 0 0, .slice (some ⟨gI, 0, none⟩) t t, .slice (some ⟨gF, 0, none⟩) t t, .slice (some ⟨w6.heap.size + 1, 0, none⟩) 2 2, .slice none 0 0, .slice none 0 0, .slice none 0 0, .slice none 0 0] 91)).alloc
    (.cells #[.pointer (some ⟨w6.heap.size + 1 + 1, 0, none⟩), .slice none 0 0, .slice none 0 0, .slice none 0 0, .slice none 0 0, .int .i64 0, .int .u64 0, .int .u64 0, .slice none 0 0, .slice none 0 0, .pointer (some ⟨gT, 0, none⟩), .pointer none] 100)).alloc
    (.cells #[.slice (some ⟨gL, 0, none⟩) n n, .slice none 0 0, .slice none 0 0, .int .i64 0, .pointer none, .map none, .pointer none, .int .i64 0] 108)).alloc
    (.cells #[.int .i64 0] 3)).alloc
    (.cells #[.pointer (some ⟨w6.heap.size + 1 + 1 + 1 + 1, 0, none⟩), .pointer (some ⟨w6.heap.size + 1 + 1 + 1, 0, none⟩), .slice none 0 0, .slice none 0 0, .slice none 0 0, .slice (some ⟨w6.heap.size + 1 + 1 + 1 + 1 + 1, 0, none⟩) 1 1, .int .i64 0, .bool true, .bool false, .int .i64 0] 111)
/-- Where it lies. -/
abbrev laySc (H gL n gS gI gF gN t : Nat) (rs : List Rw) : Sc :=
  { p := { gP := H + 1 + 1, gR := H, gS := gS, gI := gI, gF := gF, gW := H + 1, g := fun u => (rs.getD u (⟨0, 0, []⟩ : Rw)).g, c := fun u => (rs.getD u (⟨0, 0, []⟩ : Rw)).c }, gK := H + 1 + 1 + 1 + 1 + 1 + 1, gSh := H + 1 + 1 + 1, gT := gN + 1, gN := gN, cN := 2 * t, gFr := H + 1 + 1 + 1 + 1 + 1, gWk := H + 1 + 1 + 1 + 1, gL := gL, cL := n }

theorem below_lay (w6 : World) (gL n gS gI gF gT t : Nat) : Below w6.heap.size w6 (lay w6 gL n gS gI gF gT t) :=
  (((((((Below.refl _ w6).alloc (Nat.le_refl _) _).alloc (by simp) _).alloc (by simp; omega) _).alloc (by simp; omega) _).alloc (by simp; omega) _).alloc (by simp; omega) _).alloc (by simp; omega) _

theorem new_at (w : World) (B : Nat) (e : TypeId) (vs : List Value) (hB : w.heap.size = B) : RowAt (w.alloc (.cells vs.toArray e)) B e vs := by
  subst hB; exact RowAt.new w e vs
set_option maxHeartbeats 1000000 in
theorem scene_lay (w6 : World) (gL n gS gI gF gN t : Nat) (rs : List Rw) (x0 : Int) (nodes : List Int) (ls : List (Int × Int)) (xs : List Value) (hlow : gL < w6.heap.size ∧ gS < w6.heap.size ∧ gI < w6.heap.size ∧ gF < w6.heap.size ∧ gN + 1 < w6.heap.size) (hls : ls.length = n) (hL : LinesAt w6 gL ls) (hrs : rs.length = t) (hR : Rests w6 gS x0 rs) (ht : t ≤ 1024)
    (hI : RowAt w6 gI 3 xs) (hx : ∀ u, u < t → xs[u]? = some (.int .i64 u)) (hF : RowAt w6 gF 3 (List.replicate t (Value.int .i64 0))) (hT : RowAt w6 (gN + 1) 82 [.int .i64 t, .slice (some ⟨gN, 0, none⟩) (2 * t) (2 * t)]) (hN : RowAt w6 gN 3 (intsV nodes)) (hok : TreeOK nodes t) :
    SceneAt (lay w6 gL n gS gI gF (gN + 1) t) (laySc w6.heap.size gL n gS gI gF gN t rs) (rs.map Rw.r) nodes ls ∧ HeldAt (lay w6 gL n gS gI gF (gN + 1) t) (laySc w6.heap.size gL n gS gI gF gN t rs) (.slice none 0 0) [] := by
  obtain ⟨l1, l2, l3, l4, l5⟩ := hlow
  have hb := below_lay w6 gL n gS gI gF (gN + 1) t
  have G : ∀ (u : Nat) (r : List Int), (rs.map Rw.r)[u]? = some r → ∃ x, rs[u]? = some x ∧ x.r = r ∧ rs.getD u (⟨0, 0, []⟩ : Rw) = x := fun u r h => by
    rw [List.getElem?_map] at h
    cases hx : rs[u]? with
    | none => rw [hx] at h; cases h
    | some x => rw [hx] at h; exact ⟨x, rfl, by simpa using h, by simp [hx]⟩
  have hR' := hR.below hb
  have LT : ∀ (u : Nat) (x : Rw), rs[u]? = some x → x.g < w6.heap.size := fun u x h => by
    obtain ⟨_, _, h3, h4⟩ := hR.each u x h
    have hc := h3.cell 0 x0 h4
    rcases Nat.lt_or_ge x.g w6.heap.size with h' | h'
    · exact h'
    · simp [World.cell?, Array.getElem?_eq_none h'] at hc
  have r0 : RowAt (lay w6 gL n gS gI gF (gN + 1) t) w6.heap.size 88 [.slice (some ⟨gS, 0, none⟩) t t, .int .u64 0, .map none, .slice none 0 0, .slice none 0 0, .slice none 0 0, .slice none 0 0, .slice none 0 0] := ((((((new_at _ _ _ _ rfl).alloc _).alloc _).alloc _).alloc _).alloc _).alloc _
  have r1 : RowAt (lay w6 gL n gS gI gF (gN + 1) t) (w6.heap.size + 1) 3 [.int .i64 0, .int .i64 t] := (((((new_at _ _ _ _ (by simp only [World.size_alloc])).alloc _).alloc _).alloc _).alloc _).alloc _
  have r2 : RowAt (lay w6 gL n gS gI gF (gN + 1) t) (w6.heap.size + 1 + 1) 91 [.slice none 0 0, .slice none 0 0, .slice none 0 0, .slice none 0 0, .pointer (some ⟨w6.heap.size, 0, none⟩), .slice (some ⟨gI, 0, none⟩) t t, .slice none 0 0, .slice none 0 0, .slice none 0 0, .slice (some ⟨gI, 0, none⟩) t t, .slice (some ⟨gF, 0, none⟩) t t, .slice (some ⟨w6.heap.size + 1, 0, none⟩) 2 2, .slice none 0 0, .slice none 0 0, .slice none 0 0, .slice none 0 0] := ((((new_at _ _ _ _ (by simp only [World.size_alloc])).alloc _).alloc _).alloc _).alloc _
  have r3 : RowAt (lay w6 gL n gS gI gF (gN + 1) t) (w6.heap.size + 1 + 1 + 1) 100 [.pointer (some ⟨w6.heap.size + 1 + 1, 0, none⟩), .slice none 0 0, .slice none 0 0, .slice none 0 0, .slice none 0 0, .int .i64 0, .int .u64 0, .int .u64 0, .slice none 0 0, .slice none 0 0, .pointer (some ⟨gN + 1, 0, none⟩), .pointer none] := (((new_at _ _ _ _ (by simp only [World.size_alloc])).alloc _).alloc _).alloc _
  have r4 : RowAt (lay w6 gL n gS gI gF (gN + 1) t) (w6.heap.size + 1 + 1 + 1 + 1) 108 [.slice (some ⟨gL, 0, none⟩) n n, .slice none 0 0, .slice none 0 0, .int .i64 0, .pointer none, .map none, .pointer none, .int .i64 0] := ((new_at _ _ _ _ (by simp only [World.size_alloc])).alloc _).alloc _
  have r5 : RowAt (lay w6 gL n gS gI gF (gN + 1) t) (w6.heap.size + 1 + 1 + 1 + 1 + 1) 3 [.int .i64 0] := (new_at _ _ _ _ (by simp only [World.size_alloc])).alloc _
  have r6 : RowAt (lay w6 gL n gS gI gF (gN + 1) t) (w6.heap.size + 1 + 1 + 1 + 1 + 1 + 1) 111 [.pointer (some ⟨w6.heap.size + 1 + 1 + 1 + 1, 0, none⟩), .pointer (some ⟨w6.heap.size + 1 + 1 + 1, 0, none⟩), .slice none 0 0, .slice none 0 0, .slice none 0 0, .slice (some ⟨w6.heap.size + 1 + 1 + 1 + 1 + 1, 0, none⟩) 1 1, .int .i64 0, .bool true, .bool false, .int .i64 0] := new_at _ _ _ _ (by simp only [World.size_alloc])
  have e : (rs.map Rw.r).length = t := by simp [hrs]
  refine ⟨⟨⟨r2.cell 4, by rw [e]; exact r2.cell 5, by rw [e]; exact r2.cell 9, by rw [e]; exact r2.cell 10, r2.cell 11, by rw [e]; exact r0.cell 0, fun u r h => ?_, fun u r h k v e => ?_, fun u hu => ?_, fun u hu => ?_, r1.cell 0, by rw [e]; exact r1.cell 1, ⟨by simpa [hrs] using ht, fun u r h => ?_⟩⟩, ⟨by simp only; omega, by simp only; omega, by simp only; omega, by simp only; omega, by simp only; omega, by simp only; omega, fun u hu => ?_⟩, ⟨by simp only; omega, by simp only; omega, by simp only; omega, by simp only; omega, by simp only; omega, by simp only; omega⟩, r3.cell 0, r3.cell 10, ?_, ?_, ?_, by rw [hls]; exact r4.cell 0, ?_, r5.cell 0⟩, ?_, ?_⟩
  · obtain ⟨x, h1, h2, h3⟩ := G u r h
    have := (hR'.each u x h1).1
    simp only [h3]
    rw [← h2]; exact this
  · obtain ⟨x, h1, h2, h3⟩ := G u r h
    simp only [h3]
    rw [← h2] at e
    exact (hR'.each u x h1).2.2.1.cell k v e
  · have hu' : u < t := by simpa [hrs] using hu
    rw [(hI.below hb l3).cell]; exact hx u hu'
  · have hu' : u < t := by simpa [hrs] using hu
    rw [(hF.below hb l4).cell]; simp [hu']
  · obtain ⟨x, h1, h2, h3⟩ := G u r h
    have := (hR.each u x h1).2.2.1
    rw [← h2]; exact ⟨this.len, this.ids⟩
  · have hu' : u < rs.length := by simpa using hu
    have h1 := List.getElem?_eq_getElem hu'
    have := LT u _ h1
    have e : rs.getD u (⟨0, 0, []⟩ : Rw) = rs[u] := by simp [h1]
    simp only [e]; omega
  · rw [e, hok.1]; exact hT.below hb (by omega)
  · exact hN.below hb (by omega)
  · rw [e]; exact hok
  · exact hL.below hb l1
  · exact r6
  · exact ⟨rfl, Or.inl ⟨rfl, rfl⟩⟩

theorem ok0_of {w : World} {gS : Nat} {x0 : Int} {rs : List Rw} {ls : List (Int × Int)} {k : Nat} (R : Rests w gS x0 rs) (hk : k < ls.length) (hi : idAt ls k = x0) : ∀ u, u < (rs.map Rw.r).length → okAt ls k (rowAt (rs.map Rw.r) u) 0 := fun u hu => by
  have hu' : u < rs.length := by simpa using hu
  obtain ⟨_, _, _, h4⟩ := R.each u rs[u] (List.getElem?_eq_getElem hu')
  have e : rowAt (rs.map Rw.r) u = rs[u].r := by simp [rowAt, hu']
  rw [e]
  exact ⟨by omega, by omega, (List.getElem?_eq_some_iff.1 h4).1, by rw [rid_some h4]; exact hi.symm, Or.inl rfl⟩
theorem held_form {w : World} {s : Sc} {v : Value} {L : List Sp} (h : HeldAt w s v L) : ∃ (ad : Option Addr) (cap : Nat), v = .slice ad L.length cap ∧ L.length ≤ cap ∧ (0 < L.length → ∃ gg, ad = some ⟨gg, 0, none⟩) := by
  rcases h.2.2 with ⟨e, h0⟩ | ⟨g, c', cur, e, g1, g2, g3, g4, _⟩
  · exact ⟨none, 0, by rw [e, h0], by omega, fun h => by omega⟩
  · exact ⟨_, c', e, by omega, fun _ => ⟨g, rfl⟩⟩
theorem HeldAt.below {w w' : World} {s : Sc} {v : Value} {L : List Sp} (h : HeldAt w s v L) (hb : Below w.heap.size w w') : HeldAt w' s v L := ⟨h.1.below hb h.1.lt, ownsRow_below h.2 hb (Nat.le_refl _)⟩
theorem SceneAt.whole {w w' : World} {s : Sc} {rows : List (List Int)} {nodes : List Int} {ls : List (Int × Int)} (h : SceneAt w s rows nodes ls) (hk : s.gK ≤ w.heap.size) (hb : Below w.heap.size w w') : SceneAt w' s rows nodes ls := h.below (hb.mono hk)
/-- The cover's loop: what it says. -/
def CovIs (cov : List Int) (t : Nat) (c : Nat → Nat) : Prop := cov.length = t ∧ ∀ u, u < t → nodeAt cov u = (c u : Int)
theorem CovIs.add {cov : List Int} {t : Nat} {c c' : Nat → Nat} {u : Nat} (h : CovIs cov t c) (hu : u < t) (hc : ∀ q, q < t → c' q = c q + if q = u then 1 else 0) : CovIs (cov.set u (nodeAt cov u + 1)) t c' := by
  refine ⟨by simpa using h.1, fun q hq => ?_⟩
  have h2 := h.2 q hq
  rw [hc q hq]
  by_cases e : q = u
  · subst e
    rw [if_pos rfl]
    unfold nodeAt at *
    rw [List.getD_eq_getElem?_getD, List.getElem?_set_self (by rw [h.1]; exact hq)]
    simp only [Option.getD_some]
    omega
  · rw [if_neg e]
    unfold nodeAt at *
    rw [List.getD_eq_getElem?_getD, List.getElem?_set_ne (by omega), ← List.getD_eq_getElem?_getD, h2]
    omega
theorem CovIs.congr {cov : List Int} {t : Nat} {c c' : Nat → Nat} (h : CovIs cov t c) (hc : ∀ q, q < t → c' q = c q) : CovIs cov t c' := ⟨h.1, fun q hq => by rw [h.2 q hq, hc q hq]⟩
theorem CovIs.start (t : Nat) (c : Nat → Nat) (hc : ∀ q, c q = 0) : CovIs (List.replicate t 0) t c := ⟨by simp, fun u hu => by simp [nodeAt, hu, hc]⟩
theorem row_put {w : World} {g : Nat} {xs : List Int} (h : RowAt w g 3 (intsV xs)) (i : Nat) (x : Int) : RowAt (w.setCell ⟨g, i, none⟩ (.int .i64 x)) g 3 (intsV (xs.set i x)) := by
  have := h.set i (.int .i64 x)
  unfold intsV at this ⊢
  rw [List.map_set]; exact this
/-- How many of the first i spans hold u. -/
def cntTo (L : List Sp) (i u : Nat) : Nat := (L.take i).countP (fun s => s.has u)
theorem cntTo_next {L : List Sp} {i : Nat} (hi : i < L.length) {x y : Nat} (ha : (spAt L i).a = x) (hb : (spAt L i).b = y) (u : Nat) : cntTo L (i + 1) u = cntTo L i u + if x ≤ u ∧ u < y then 1 else 0 := by
  unfold cntTo
  rw [List.take_succ_eq_append_getElem hi, List.countP_append]
  congr 1
  rw [List.countP_singleton]
  rw [spAt_pos L i hi] at ha hb
  unfold Sp.has
  by_cases g : x ≤ u ∧ u < y
  · rw [if_pos g, if_pos (decide_eq_true (by rw [ha, hb]; omega))]
  · rw [if_neg g, if_neg (by simp only [decide_eq_true_eq, ha, hb]; omega)]
theorem cntTo_all {L : List Sp} {i : Nat} (hi : L.length ≤ i) (u : Nat) : cntTo L i u = L.countP (fun s => s.has u) := by unfold cntTo; rw [List.take_of_length_le hi]
end Go.Proofs.Ybulkcwnq
