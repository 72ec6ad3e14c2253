import Derived.Test.YbulkcwnqPush
import Derived.Test.YbulkcwnqGood
namespace Go.Proofs.Ybulkcwnq
open Go.RowKit Go.Lib
attribute [local go_sem ↓] Go.wp_at_zero Go.wp_at_succ

theorem rmin_shift (g : Nat → Int) (t a k : Nat) : rmin g (t + a) k = rmin (fun u => g (t + u)) a k := by
  induction k generalizing a with
  | zero => rfl
  | succ k ih => show min (g (t + a)) (rmin g (t + a + 1) k) = min (g (t + a)) _; rw [show t + a + 1 = t + (a + 1) by omega, ih]
/-- The entry of place u. -/
def ent (nodes : List Int) (t : Nat) (u : Nat) : Int := nodeAt nodes (t + u)

theorem push_good (s : Sc) (rows : List (List Int)) (nodes : List Int) (ls : List (Int × Int)) (v : Value) (L : List Sp) (J x y k : Nat) (C : Nat → Prop) (w : World) (S : SceneAt w s rows nodes ls) (H : HeldAt w s v L) (hxy : x ≤ y) (hy : y ≤ rows.length) (hf : ∀ u, u < rows.length → ent nodes rows.length u ≤ NV)
    (G : Good ls k rows (ent nodes rows.length) L C) (hC : ∀ u, x ≤ u → u < y → ¬ C u) (hJ : ∀ u, x ≤ u → u < y → AheadIs ls k (rowAt rows u) J) (hh : HeapOK L) (hL : L.length ≤ 1024) :
    Calls Yba.prog 20 #[.pointer (some ⟨s.gK, 0, none⟩), .agg #[.int .i64 J, .int .i64 0, .int .i64 x, .int .i64 y]] w fun e w' => e = .returned (.tuple #[]) ∧ Below s.gK w w' ∧ ∃ v' L', HeldAt w' s v' L' ∧ HeapOK L' ∧ L'.length ≤ L.length + 1 ∧ Good ls k rows (ent nodes rows.length) L' (fun u => C u ∨ (x ≤ u ∧ u < y)) := by
  have hm : rmin (nodeAt nodes) (rows.length + x) (y - x) = rmin (ent nodes rows.length) x (y - x) := rmin_shift _ _ _ _
  by_cases hk : rmin (ent nodes rows.length) x (y - x) = NV
  · refine (push_none s rows nodes ls v L ⟨J, 0, x, y⟩ x y w S H rfl rfl hxy hy (hm.trans hk)).mono ?_
    rintro e w' ⟨rfl, hb⟩
    exact ⟨rfl, hb.mono (Nat.le_of_lt H.1.lt), v, L, ⟨H.1.below hb H.1.lt, ownsRow_below H.2 hb (Nat.le_refl _)⟩, hh, Nat.le_succ _, G.skip hk hf⟩
  · refine (push_some s rows nodes ls v L J 0 _ x y w S H hxy hy hm hk hL).mono ?_
    rintro e w' ⟨rfl, hb, v', L', hH, hp, hh'⟩
    exact ⟨rfl, hb, v', L', hH, hh' hh, by rw [hp.length_eq]; simp, (G.put rfl hk hy hC hJ).perm hp⟩

/-- What rank has done before the round d. -/
structure RankAt (s : Sc) (rows : List (List Int)) (nodes : List Int) (ls : List (Int × Int)) (k : Nat) (w wr : World) (a b d : Nat) (v : Value) (L : List Sp) : Prop where
  ab : a ≤ b
  bt : b ≤ rows.length
  below : Below s.gK w wr
  held : HeldAt wr s v L
  heap : HeapOK L
  len : L.length ≤ 2 * d
  good : Good ls k rows (ent nodes rows.length) L (fun u => u < a ∨ b ≤ u)
  ok : ∀ u, a ≤ u → u < b → ∀ j, j < d → okAt ls k (rowAt rows u) j

def RankDone (s : Sc) (rows : List (List Int)) (nodes : List Int) (ls : List (Int × Int)) (k : Nat) (w : World) (e : Ending) (w' : World) : Prop :=
  e = .returned (.tuple #[]) ∧ Below s.gK w w' ∧ ∃ v' L', HeldAt w' s v' L' ∧ HeapOK L' ∧ L'.length ≤ 1024 ∧ Good ls k rows (ent nodes rows.length) L' (fun _ => True)

theorem quiet_sum {P : Program} {f : FuncId} {args : Array Value} {w : World} {q n : Nat} {v : Value} (h : Calls P f args (w.drewN (q + n)) fun e w' => e = .returned v ∧ ∃ m, w' = (w.drewN (q + n)).drewN m) : Calls P f args (w.drewN (q + n)) fun e w' => e = .returned v ∧ ∃ m, w' = w.drewN (q + m) :=
  h.mono fun _ _ ⟨he, m, hm⟩ => ⟨he, n + m, by rw [hm, drewN_two, Nat.add_assoc]⟩
/-- The last push. -/
theorem rank_last {s : Sc} {rows : List (List Int)} {nodes : List Int} {ls : List (Int × Int)} {k : Nat} {w wr W : World} {a b d : Nat} {v : Value} {L : List Sp} (S : SceneAt w s rows nodes ls) (R : RankAt s rows nodes ls k w wr a b d v L) (hf : ∀ u, u < rows.length → ent nodes rows.length u ≤ NV) (hd : d ≤ 256)
    (hstop : ∀ u, a ≤ u → u < b → ¬ okAt ls k (rowAt rows u) d) (hW : Below wr.heap.size wr W) :
    Calls Yba.prog 20 #[.pointer (some ⟨s.gK, 0, none⟩), .agg #[.int .i64 d, .int .i64 0, .int .i64 a, .int .i64 b]] W (RankDone s rows nodes ls k w) := by
  have hb : Below s.gK w W := R.below.trans (hW.mono (Nat.le_of_lt R.held.1.lt))
  have hlen := R.len
  refine (push_good s rows nodes ls v L d a b k (fun u => u < a ∨ b ≤ u) W (S.below hb) ⟨R.held.1.below hW R.held.1.lt, ownsRow_below R.held.2 hW (Nat.le_refl _)⟩ R.ab R.bt hf R.good (fun u h1 h2 => by omega) (fun u h1 h2 => ⟨R.ok u h1 h2, hstop u h1 h2⟩) R.heap (by omega)).mono ?_
  rintro e w' ⟨rfl, hb', v', L', hH, hh, hl, hG⟩
  exact ⟨rfl, hb.trans hb', v', L', hH, hh, by omega, hG.weak (fun u _ => by simp only [iff_true]; omega)⟩

/-- A push on the way. -/
theorem rank_cut {s : Sc} {rows : List (List Int)} {nodes : List Int} {ls : List (Int × Int)} {k : Nat} {w wr W : World} {a b d : Nat} {v : Value} {L : List Sp} (S : SceneAt w s rows nodes ls) (R : RankAt s rows nodes ls k w wr a b d v L) (hf : ∀ u, u < rows.length → ent nodes rows.length u ≤ NV) (hd : d ≤ 256)
    {x y : Nat} (hx : a ≤ x) (hxy : x ≤ y) (hy : y ≤ b) (hstop : ∀ u, x ≤ u → u < y → ¬ okAt ls k (rowAt rows u) d) (hW : Below wr.heap.size wr W) :
    Calls Yba.prog 20 #[.pointer (some ⟨s.gK, 0, none⟩), .agg #[.int .i64 d, .int .i64 0, .int .i64 x, .int .i64 y]] W fun e w' => e = .returned (.tuple #[]) ∧ Below s.gK w w' ∧ ∃ v' L', HeldAt w' s v' L' ∧ HeapOK L' ∧ L'.length ≤ L.length + 1 ∧ Good ls k rows (ent nodes rows.length) L' (fun u => (u < a ∨ b ≤ u) ∨ (x ≤ u ∧ u < y)) := by
  have hb : Below s.gK w W := R.below.trans (hW.mono (Nat.le_of_lt R.held.1.lt))
  have hlen := R.len
  have hbt := R.bt
  refine (push_good s rows nodes ls v L d x y k (fun u => u < a ∨ b ≤ u) W (S.below hb) ⟨R.held.1.below hW R.held.1.lt, ownsRow_below R.held.2 hW (Nat.le_refl _)⟩ hxy (by omega) hf R.good (fun u h1 h2 => by omega) (fun u h1 h2 => ⟨R.ok u (by omega) (by omega), hstop u h1 h2⟩) R.heap (by omega)).mono ?_
  rintro e w' ⟨rfl, hb', h⟩
  exact ⟨rfl, hb.trans hb', h⟩
theorem under_mono {p : Pl} {t B B' : Nat} (h : p.under t B) (hB : B ≤ B') : p.under t B' := by
  obtain ⟨h1, h2, h3, h4, h5, h6, h7⟩ := h
  exact ⟨by omega, by omega, by omega, by omega, by omega, by omega, fun u hu => Nat.lt_of_lt_of_le (h7 u hu) hB⟩

set_option maxRecDepth 20000 in
set_option maxHeartbeats 16000000 in
theorem rank_any (s : Sc) (rows : List (List Int)) (nodes : List Int) (ls : List (Int × Int)) (k : Nat) (w : World) (S : SceneAt w s rows nodes ls) (H : HeldAt w s (.slice none 0 0) []) (hk : k < ls.length) (hup : RowsUp rows) (hf : ∀ u, u < rows.length → ent nodes rows.length u ≤ NV) (h0 : ∀ u, u < rows.length → okAt ls k (rowAt rows u) 0) :
    Calls Yba.prog 10 #[.pointer (some ⟨s.gK, 0, none⟩), .int .i64 k] w (RankDone s rows nodes ls k w) := by
  have hgk : s.gK < w.heap.size := H.1.lt
  have w0 : w.cell? ⟨s.gK, 0, none⟩ = some (.pointer (some ⟨s.gWk, 0, none⟩)) := by rw [H.1.cell]; rfl
  have w1 : w.cell? ⟨s.gK, 1, none⟩ = some (.pointer (some ⟨s.gSh, 0, none⟩)) := by rw [H.1.cell]; rfl
  have w2 := S.wk
  have w3 := S.sh0
  have w4 := S.plan.waitOn
  have w5 := S.plan.wait0
  have w6 := S.plan.wait1
  obtain ⟨l0, hl0⟩ := get_of_lt hk
  have w7 := S.lines.slot k l0 hl0
  have bb := S.lines.bound.1
  have bt := S.plan.bound.1
  have c76 : Yba.prog.cellsOf 76 = 4 := by kernel_rfl
  have hki : (k : Int) < (ls.length : Int) := by omega
  have SS := hid S
  have HH := hid H
  have UP := hid hup
  have HF := hid hf
  have H0 := hid h0
  clear S H hup hf h0 hl0
  go_enter Yba.func10, Yba.ntmps10
  go_wp2
  go_quiet (fail)
  go_wp2
  go_quiet (fail)
  go_wp2
  clear w0 w1 w2 w3 w4 w5 w6 w7
  go_loopw [6, 7, 8] (fun x y z wr => ∃ (a b d : Nat) (v : Value) (L : List Sp), x = .int .i64 a ∧ y = .int .i64 b ∧ z = .int .i64 d ∧ 1 ≤ d ∧ d ≤ 256 ∧ RankAt s rows nodes ls k w wr a b d v L) (fun _ _ z _ => 256 - (intOf z).toNat)
  case atStart =>
    have hB : ∀ q q', Below w.heap.size w ((w.drewN q).drewN q') := fun q q' => below_drewN (below_drewN (Below.refl _ _) q) q'
    exact ⟨0, rows.length, 1, .slice none 0 0, [], rfl, rfl, rfl, Nat.le_refl _, by omega, ⟨Nat.zero_le _, Nat.le_refl _, (hB _ _).mono (Nat.le_of_lt hgk), ⟨HH.out.1.below (hB _ _) hgk, ownsRow_below HH.out.2 (hB _ _) (Nat.le_refl _)⟩, fun j h1 h2 => absurd h2 (Nat.not_lt_zero _), Nat.zero_le _, (Good.none ls k rows _).weak (fun u hu => by simp; omega), fun u _ h2 j hj => by
      obtain rfl : j = 0 := by omega
      exact H0.out u h2⟩⟩
  case round =>
    obtain ⟨a, b, d, v, L, rfl, rfl, rfl, hd1, hd2, hR⟩ := hrel
    have RR := hid hR
    have hab := hR.ab
    have hbt := hR.bt
    have hgr : s.gK < wr.heap.size := hR.held.1.lt
    have SW := hid (SS.out.below hR.below)
    have lo := SW.out.low
    have l1 := lo.1
    have ugP := SW.out.under.1
    have ugI := SW.out.under.2.2.2.1
    have ugL := lo.2.2.2.2.2
    have ugT := lo.2.1
    clear hR lo
    have KX : Hid (∀ W, (∀ u, a ≤ u → u < b → ¬ okAt ls k (rowAt rows u) d) → Below wr.heap.size wr W → Calls Yba.prog 20 #[.pointer (some ⟨s.gK, 0, none⟩), .agg #[.int .i64 d, .int .i64 0, .int .i64 a, .int .i64 b]] W (RankDone s rows nodes ls k w)) := fun W h1 h2 => rank_last SS.out RR.out HF.out hd2 h1 h2
    by_cases h1 : d < 256
    · have i1 : decide ((d : Int) < 256) = true := decide_eq_true (by omega)
      by_cases h2 : k + d < ls.length
      · have i2 : decide ((k : Int) + (d : Int) < (ls.length : Int)) = true := decide_eq_true (by omega)
        obtain ⟨l, hl⟩ := get_of_lt h2
        obtain ⟨m, hm⟩ := get_of_lt (show k + d - 1 < ls.length by omega)
        have c2 := SW.out.lines.id (k + d) l hl
        have c3 := SW.out.lines.line (k + d) l hl
        have c4 := SW.out.lines.line (k + d - 1) m hm
        have y1 : IntKind.i64.wrap ((k : Int) + (d : Int)) = (k : Int) + (d : Int) := wrap64s _ (by omega) (by omega)
        have x0 : (0 : Int) ≤ (k : Int) + (d : Int) := by omega
        have x1 : (k : Int) + (d : Int) < (ls.length : Int) := by omega
        have x2 : ((k : Int) + (d : Int)).toNat = k + d := by omega
        have e2 := hid (idAt_some hl)
        have e3 := hid (lineAt_some hl)
        have e4 := hid (lineAt_some hm)
        have y2 : IntKind.i64.wrap ((k : Int) + (d : Int) - 1) = (k : Int) + (d : Int) - 1 := wrap64s _ (by omega) (by omega)
        have x3 : (0 : Int) ≤ (k : Int) + (d : Int) - 1 := by omega
        have x4 : (k : Int) + (d : Int) - 1 < (ls.length : Int) := by omega
        have x5 : ((k : Int) + (d : Int) - 1).toNat = k + d - 1 := by omega
        have y3 : IntKind.i64.wrap (m.1 + 1) = m.1 + 1 := by have := SW.out.lines.bound.2 _ _ hm; exact wrap64s _ (by omega) (by omega)
        have y4 : 0 ≤ l.2 ∧ l.2 < 3 := by have := SW.out.lines.bound.2 _ _ hl; exact ⟨by omega, by omega⟩
        have y5 : IntKind.i64.wrap l.2 = l.2 := wrap64s _ (by omega) (by omega)
        have Y4 := hid y4
        clear hl hm y4
        by_cases h6 : l.1 = m.1 + 1
        · have i6 : (l.1 == m.1 + 1) = true := by simpa using h6
          have OKL : Hid (lineAt ls (k + d) = lineAt ls (k + d - 1) + 1) := by rw [Hid, e3.out, e4.out, h6]
          clear h6
          by_cases h7 : a < b
          · have i7 : decide ((a : Int) < (b : Int)) = true := decide_eq_true (by omega)
            go_wp2
            go_quiet (fail)
            go_wp2
            clear i1 i2 i6 i7 c3 c4 x3 x4 x5 y2 y3 y5 hki bb bt ugP ugI ugT hgk
            have bt := SW.out.plan.bound.1
            have c5 := SW.out.sh0
            have c6 := SW.out.plan.byRest
            have c7 := SW.out.plan.idx a (by omega)
            obtain ⟨b1, hb1⟩ : ∃ b1, b - 1 = b1 := ⟨_, rfl⟩
            have c8 := SW.out.plan.idx b1 (by omega)
            have x6 : (a : Int) < (rows.length : Int) := by omega
            have x7 : (1 : Int) ≤ (b : Int) := by omega
            have x8 : (b : Int) - 1 < (rows.length : Int) := by omega
            have x9 : ((b : Int) - 1).toNat = b1 := by omega
            have y6 : IntKind.i64.wrap ((b : Int) - 1) = (b : Int) - 1 := wrap64s _ (by omega) (by omega)
            obtain ⟨ra, hra⟩ : ∃ ra, rid (rowAt rows a) d = ra := ⟨_, rfl⟩
            obtain ⟨rb, hrb⟩ : ∃ rb, rid (rowAt rows b1) d = rb := ⟨_, rfl⟩
            have KA : Hid (∀ q, Calls Yba.prog 18 #[.pointer (some ⟨s.p.gP, 0, none⟩), .int .i64 a, .int .i64 d] (wr.drewN q) fun e w' => e = .returned (.int .i64 ra) ∧ ∃ m, w' = (wr.drewN q).drewN m) := fun q => hra ▸ restID_any s.p rows a d _ _ (SW.out.plan.drewN q) (rowAt_some (by omega)) (by omega)
            have KB : Hid (∀ q, Calls Yba.prog 18 #[.pointer (some ⟨s.p.gP, 0, none⟩), .int .i64 b1, .int .i64 d] (wr.drewN q) fun e w' => e = .returned (.int .i64 rb) ∧ ∃ m, w' = (wr.drewN q).drewN m) := fun q => hrb ▸ restID_any s.p rows b1 d _ _ (SW.out.plan.drewN q) (rowAt_some (by omega)) (by omega)
            have KW : Hid (∀ W, Below wr.heap.size wr W → Calls Yba.prog 19 #[.pointer (some ⟨s.p.gP, 0, none⟩), .int .i64 a, .int .i64 b, .int .i64 d, .int .u32 l.2] W fun e w' => ∃ x y : Nat, e = .returned (.tuple #[.int .i64 x, .int .i64 y]) ∧ a ≤ x ∧ x ≤ y ∧ y ≤ b ∧ (∀ u, a ≤ u → u < b → (rid (rowAt rows u) d = l.2 ↔ x ≤ u ∧ u < y)) ∧ Below wr.heap.size wr w') := fun W hW => by
              refine (within_any s.p rows a b d l.2 W ((SW.out.below (hW.mono (Nat.le_of_lt hgr))).plan) (under_mono SW.out.under (by have := hW.size; omega)) h7 hbt (by omega) Y4.out.1 Y4.out.2 (ok_mono (ls := ls) (k := k) (d := d) (a := a) (b := b) UP.out (fun u hu v hv => (((SW.out.plan.bound.2 u _ (rowAt_some hu)).2 v hv)).1) hbt RR.out.ok)).mono ?_
              rintro e w' ⟨x, y, rfl, g1, g2, g3, g4, g5⟩
              exact ⟨x, y, rfl, g1, g2, g3, g4, hW.trans (g5.mono hW.size)⟩
            have RA := hid hra
            have RB := hid hrb
            have MO := hid (ok_mono (ls := ls) (k := k) (d := d) (a := a) (b := b) UP.out (fun u hu v hv => (((SW.out.plan.bound.2 u _ (rowAt_some hu)).2 v hv)).1) hbt RR.out.ok)
            have HB1 := hid hb1
            clear hra hrb hb1
            by_cases hA : ra = l.2
            · have jA : (ra == l.2) = true := by simpa using hA
              have HA := hid hA
              clear hA
              by_cases hB : rb = l.2
              · have jB : (rb == l.2) = true := by simpa using hB
                have HB := hid hB
                clear hB
                clear c2 x0 x1 x2 y1
                go_quiet (first | (go_at_call_of 18 (Value.int .i64 (a : Int)); exact quiet_sum (KA.out _)) | (go_at_call_of 18 (Value.int .i64 (b1 : Int)); exact quiet_sum (KB.out _)))
                go_wp2
                go_roundw
                case rel =>
                  have R := RR.out
                  have hb1 := HB1.out
                  exact ⟨a, b, d + 1, v, L, rfl, rfl, by go_num, by omega, by omega, ⟨R.ab, R.bt, below_drewN R.below _, ⟨RowAt.drewN R.held.1 _, ownsRow_below R.held.2 (below_drewN (Below.refl _ _) _) (Nat.le_refl _)⟩, R.heap, by have := R.len; omega, R.good, fun u i1 i2 j hj => by
                    rcases Nat.lt_succ_iff_lt_or_eq.1 hj with h | h
                    · exact R.ok u i1 i2 j h
                    · subst h
                      have m1 := MO.out a u (Nat.le_refl _) i1 i2
                      have m2 := MO.out u b1 i1 (by omega) (by omega)
                      rw [RA.out] at m1
                      rw [RB.out] at m2
                      have q1 := HA.out
                      have q2 := HB.out
                      have q3 := Y4.out
                      exact ⟨h1, h2, rid_pos_lt (by omega), by rw [e2.out]; omega, Or.inr OKL.out⟩⟩⟩
                case measure => simp [intOf]; omega
              · have jB : (rb == l.2) = false := by simpa using hB
                clear hB
                go_quiet (first | (go_at_call_of 18 (Value.int .i64 (a : Int)); exact quiet_sum (KA.out _)) | (go_at_call_of 18 (Value.int .i64 (b1 : Int)); exact quiet_sum (KB.out _)))
                go_wp2_with fail
                go_region_held3 (fun wy => wy.cell? ⟨s.gSh, 0, none⟩ = some (.pointer (some ⟨s.p.gP, 0, none⟩)) ∧ wy.cell? ⟨s.gL, (k + d) * 4 + 1, none⟩ = some (.int .u32 l.2))
                  (first | go_keep | (refine ⟨?_, ?_⟩ <;> (rw [hc4 _ _ (by omega)]; assumption)))
                  ((go_at_call 19; refine (KW.out _ ?_).mono ?_; (first | exact below_drewN (Below.refl _ _) _ | exact (below_drewN (Below.refl _ _) _).drew); rintro e w4 ⟨x, y, rfl, h8, h9, h10, h11, hb4⟩; obtain ⟨hc4, hf4⟩ := bcell hb4))
                rename_i hHeld
                clear hHeld hc4 hf4 c2 c5 c6 c7 c8 x0 x1 x2 y1 KA KB KW
                have H11 := hid h11
                have HB4 := hid hb4
                clear h11 hb4
                by_cases h12 : x = y
                · subst h12
                  go_wp2_with fail
                  refine (KX.out _ (fun u i1 i2 h => by have h' := (H11.out u i1 i2).1 (by rw [h.2.2.2.1, e2.out]); omega) HB4.out).mono ?_
                  rintro e w' ⟨rfl, hd⟩
                  go_wp2
                  go_end0
                  exact ⟨rfl, hd⟩
                · have i12 : ((x : Int) == (y : Int)) = false := by simp; omega
                  have K1 := hid (rank_cut SS.out RR.out HF.out hd2 (x := a) (y := x) (Nat.le_refl _) h8 (by omega) (fun u i1 i2 h => by have h' := (H11.out u i1 (by omega)).1 (by rw [h.2.2.2.1, e2.out]); omega) HB4.out)
                  go_wp2_with fail
                  refine K1.out.mono ?_
                  rintro e w5 ⟨rfl, hb5, v5, L5, hH5, hh5, hl5, hG5⟩
                  have K2 : Hid (Calls Yba.prog 20 #[.pointer (some ⟨s.gK, 0, none⟩), .agg #[.int .i64 d, .int .i64 0, .int .i64 y, .int .i64 b]] w5 _) := push_good s rows nodes ls v5 L5 d y b k _ w5 (SS.out.below hb5) hH5 h10 RR.out.bt HF.out hG5 (fun u i1 i2 => by omega) (fun u i1 i2 => ⟨RR.out.ok u (by omega) i2, fun h => by have h' := (H11.out u (by omega) i2).1 (by rw [h.2.2.2.1, e2.out]); omega⟩) hh5 (by have := RR.out.len; omega)
                  have B5 := hid hb5
                  have LL5 := hid hl5
                  clear hb5 hH5 hh5 hl5 hG5 K1
                  go_wp2_with fail
                  refine K2.out.mono ?_
                  rintro e w6 ⟨rfl, hb6, v6, L6, hH6, hh6, hl6, hG6⟩
                  clear K2
                  have B6 := hid (B5.out.trans hb6)
                  have G6 := hid hG6
                  have HH6 := hid hH6
                  have HP6 := hid hh6
                  have LL6 : Hid (L6.length ≤ 2 * (d + 1)) := by have := RR.out.len; have := LL5.out; show _ ≤ _; omega
                  have S6 := SS.out.below B6.out
                  have c9 := S6.sh10
                  obtain ⟨mn, hmn⟩ : ∃ mn, rmin (nodeAt nodes) (rows.length + x) (y - x) = mn := ⟨_, rfl⟩
                  have K3 : Hid (Calls Yba.prog 21 #[.pointer (some ⟨s.gT, 0, none⟩), .int .i64 x, .int .i64 y] w6 fun e w' => e = .returned (.int .i64 mn) ∧ ∃ q, w' = w6.drewN q) := hmn ▸ least_any s.gT s.gN s.cN rows.length x y nodes w6 S6.tree S6.nd S6.ok h9 (by omega) S6.plan.bound.1
                  have MN := hid hmn
                  clear hb6 hH6 hh6 hl6 hG6 S6 hmn B5 LL5
                  have FW : Hid (∀ q, RankAt s rows nodes ls k w (w6.drewN q) x y (d + 1) v6 L6) := fun q => ⟨h9, by omega, below_drewN B6.out _, ⟨RowAt.drewN HH6.out.1 _, ownsRow_below HH6.out.2 (below_drewN (Below.refl _ _) _) (Nat.le_refl _)⟩, HP6.out, LL6.out, G6.out.weak (fun u _ => by omega), fun u i1 i2 j hj => by
                    rcases Nat.lt_succ_iff_lt_or_eq.1 hj with h | h
                    · exact RR.out.ok u (by omega) (by omega) j h
                    · subst h
                      have e := (H11.out u (by omega) (by omega)).2 ⟨i1, i2⟩
                      have q3 := Y4.out
                      exact ⟨h1, h2, rid_pos_lt (by omega), by rw [e2.out]; omega, Or.inr OKL.out⟩⟩
                  by_cases hnv : mn = NV
                  · have i13 : (mn == 9223372036854775807) = true := by simpa [NV] using hnv
                    have NVH := hid hnv
                    clear hnv
                    go_wp2_with (go_at_call 21; refine K3.out.mono ?_; rintro e w7 ⟨rfl, q7, rfl⟩)
                    (try simp only [Exit.inBlock, Exit.then])
                    refine bodyPost_ret (results_none rfl _ _ _) rfl ?_
                    have F := FW.out q7
                    exact ⟨rfl, F.below, v6, L6, F.held, F.heap, by have := F.len; omega, (F.good.skip (x := x) (y := y) ((rmin_shift (nodeAt nodes) rows.length x (y - x)).symm.trans (MN.out.trans NVH.out)) HF.out).weak (fun u _ => by simp only [iff_true]; omega)⟩
                  · have i13 : (mn == 9223372036854775807) = false := by simpa [NV] using hnv
                    clear hnv
                    go_wp2_with (go_at_call 21; refine K3.out.mono ?_; rintro e w7 ⟨rfl, q7, rfl⟩)
                    go_roundw
                    case rel => exact ⟨x, y, d + 1, v6, L6, rfl, rfl, by go_num, by omega, by omega, FW.out _⟩
                    case measure => simp [intOf]; omega
            · have jA : (ra == l.2) = false := by simpa using hA
              clear hA
              go_quiet (first | (go_at_call_of 18 (Value.int .i64 (a : Int)); exact quiet_sum (KA.out _)) | (go_at_call_of 18 (Value.int .i64 (b1 : Int)); exact quiet_sum (KB.out _)))
              go_wp2_with fail
              go_region_held3 (fun wy => wy.cell? ⟨s.gSh, 0, none⟩ = some (.pointer (some ⟨s.p.gP, 0, none⟩)) ∧ wy.cell? ⟨s.gL, (k + d) * 4 + 1, none⟩ = some (.int .u32 l.2))
                (first | go_keep | (refine ⟨?_, ?_⟩ <;> (rw [hc4 _ _ (by omega)]; assumption)))
                ((go_at_call 19; refine (KW.out _ ?_).mono ?_; (first | exact below_drewN (Below.refl _ _) _ | exact (below_drewN (Below.refl _ _) _).drew); rintro e w4 ⟨x, y, rfl, h8, h9, h10, h11, hb4⟩; obtain ⟨hc4, hf4⟩ := bcell hb4))
              rename_i hHeld
              clear hHeld hc4 hf4 c2 c5 c6 c7 c8 x0 x1 x2 y1 KA KB KW
              have H11 := hid h11
              have HB4 := hid hb4
              clear h11 hb4
              by_cases h12 : x = y
              · subst h12
                go_wp2_with fail
                refine (KX.out _ (fun u i1 i2 h => by have h' := (H11.out u i1 i2).1 (by rw [h.2.2.2.1, e2.out]); omega) HB4.out).mono ?_
                rintro e w' ⟨rfl, hd⟩
                go_wp2
                go_end0
                exact ⟨rfl, hd⟩
              · have i12 : ((x : Int) == (y : Int)) = false := by simp; omega
                have K1 := hid (rank_cut SS.out RR.out HF.out hd2 (x := a) (y := x) (Nat.le_refl _) h8 (by omega) (fun u i1 i2 h => by have h' := (H11.out u i1 (by omega)).1 (by rw [h.2.2.2.1, e2.out]); omega) HB4.out)
                go_wp2_with fail
                refine K1.out.mono ?_
                rintro e w5 ⟨rfl, hb5, v5, L5, hH5, hh5, hl5, hG5⟩
                have K2 : Hid (Calls Yba.prog 20 #[.pointer (some ⟨s.gK, 0, none⟩), .agg #[.int .i64 d, .int .i64 0, .int .i64 y, .int .i64 b]] w5 _) := push_good s rows nodes ls v5 L5 d y b k _ w5 (SS.out.below hb5) hH5 h10 RR.out.bt HF.out hG5 (fun u i1 i2 => by omega) (fun u i1 i2 => ⟨RR.out.ok u (by omega) i2, fun h => by have h' := (H11.out u (by omega) i2).1 (by rw [h.2.2.2.1, e2.out]); omega⟩) hh5 (by have := RR.out.len; omega)
                have B5 := hid hb5
                have LL5 := hid hl5
                clear hb5 hH5 hh5 hl5 hG5 K1
                go_wp2_with fail
                refine K2.out.mono ?_
                rintro e w6 ⟨rfl, hb6, v6, L6, hH6, hh6, hl6, hG6⟩
                clear K2
                have B6 := hid (B5.out.trans hb6)
                have G6 := hid hG6
                have HH6 := hid hH6
                have HP6 := hid hh6
                have LL6 : Hid (L6.length ≤ 2 * (d + 1)) := by have := RR.out.len; have := LL5.out; show _ ≤ _; omega
                have S6 := SS.out.below B6.out
                have c9 := S6.sh10
                obtain ⟨mn, hmn⟩ : ∃ mn, rmin (nodeAt nodes) (rows.length + x) (y - x) = mn := ⟨_, rfl⟩
                have K3 : Hid (Calls Yba.prog 21 #[.pointer (some ⟨s.gT, 0, none⟩), .int .i64 x, .int .i64 y] w6 fun e w' => e = .returned (.int .i64 mn) ∧ ∃ q, w' = w6.drewN q) := hmn ▸ least_any s.gT s.gN s.cN rows.length x y nodes w6 S6.tree S6.nd S6.ok h9 (by omega) S6.plan.bound.1
                have MN := hid hmn
                clear hb6 hH6 hh6 hl6 hG6 S6 hmn B5 LL5
                have FW : Hid (∀ q, RankAt s rows nodes ls k w (w6.drewN q) x y (d + 1) v6 L6) := fun q => ⟨h9, by omega, below_drewN B6.out _, ⟨RowAt.drewN HH6.out.1 _, ownsRow_below HH6.out.2 (below_drewN (Below.refl _ _) _) (Nat.le_refl _)⟩, HP6.out, LL6.out, G6.out.weak (fun u _ => by omega), fun u i1 i2 j hj => by
                  rcases Nat.lt_succ_iff_lt_or_eq.1 hj with h | h
                  · exact RR.out.ok u (by omega) (by omega) j h
                  · subst h
                    have e := (H11.out u (by omega) (by omega)).2 ⟨i1, i2⟩
                    have q3 := Y4.out
                    exact ⟨h1, h2, rid_pos_lt (by omega), by rw [e2.out]; omega, Or.inr OKL.out⟩⟩
                by_cases hnv : mn = NV
                · have i13 : (mn == 9223372036854775807) = true := by simpa [NV] using hnv
                  have NVH := hid hnv
                  clear hnv
                  go_wp2_with (go_at_call 21; refine K3.out.mono ?_; rintro e w7 ⟨rfl, q7, rfl⟩)
                  (try simp only [Exit.inBlock, Exit.then])
                  refine bodyPost_ret (results_none rfl _ _ _) rfl ?_
                  have F := FW.out q7
                  exact ⟨rfl, F.below, v6, L6, F.held, F.heap, by have := F.len; omega, (F.good.skip (x := x) (y := y) ((rmin_shift (nodeAt nodes) rows.length x (y - x)).symm.trans (MN.out.trans NVH.out)) HF.out).weak (fun u _ => by simp only [iff_true]; omega)⟩
                · have i13 : (mn == 9223372036854775807) = false := by simpa [NV] using hnv
                  clear hnv
                  go_wp2_with (go_at_call 21; refine K3.out.mono ?_; rintro e w7 ⟨rfl, q7, rfl⟩)
                  go_roundw
                  case rel => exact ⟨x, y, d + 1, v6, L6, rfl, rfl, by go_num, by omega, by omega, FW.out _⟩
                  case measure => simp [intOf]; omega
          · have i7 : decide ((a : Int) < (b : Int)) = false := decide_eq_false (by omega)
            go_wp2
            go_quiet (fail)
            go_wp2_with (go_at_call 20; refine (KX.out _ (fun u _ _ h => by omega) (below_drewN (Below.refl _ _) _)).mono ?_; rintro e w' ⟨rfl, hd⟩)
            go_end0
            exact ⟨rfl, hd⟩
        · have i6 : (l.1 == m.1 + 1) = false := by simpa using h6
          go_wp2
          go_quiet (fail)
          go_wp2_with (go_at_call 20; refine (KX.out _ (fun u _ _ h => by have h' := h.2.2.2.2; rw [e3.out, e4.out] at h'; omega) (below_drewN (Below.refl _ _) _)).mono ?_; rintro e w' ⟨rfl, hd⟩)
          go_end0
          exact ⟨rfl, hd⟩
      · have i2 : decide ((k : Int) + (d : Int) < (ls.length : Int)) = false := decide_eq_false (by omega)
        go_wp2
        go_quiet (fail)
        go_wp2_with (go_at_call 20; refine (KX.out _ (fun u _ _ h => h2 h.2.1) (below_drewN (Below.refl _ _) _)).mono ?_; rintro e w' ⟨rfl, hd⟩)
        go_end0
        exact ⟨rfl, hd⟩
    · have i1 : decide ((d : Int) < 256) = false := decide_eq_false (by omega)
      go_wp2
      go_quiet (fail)
      go_wp2_with (go_at_call 20; refine (KX.out _ (fun u _ _ h => h1 h.1) (below_drewN (Below.refl _ _) _)).mono ?_; rintro e w' ⟨rfl, hd⟩)
      go_end0
      exact ⟨rfl, hd⟩
end Go.Proofs.Ybulkcwnq
