import Derived.Test.YbulkcwheBuild
namespace Go.Proofs.Ybulkcwhe
open Go.ChangeShapes Go.WideShapes Go.ChangeAt Go.RowKit

theorem bcell {W w1 : World} (hb : Below W.heap.size W w1) : (∀ b o, b < W.heap.size → w1.cell? ⟨b, o, none⟩ = W.cell? ⟨b, o, none⟩) ∧ (∀ b o, b < W.heap.size → w1.frozen? ⟨b, o, none⟩ = W.frozen? ⟨b, o, none⟩) :=
  ⟨fun b o h => hb.cell (p := ⟨b, o, none⟩) h, fun b o h => hb.frozen (p := ⟨b, o, none⟩) h⟩

set_option maxHeartbeats 400000 in
/-- zzs4892cordering: 125. -/
theorem ordering_any (w : World) : Calls Yba.prog 17 #[] w fun e w' => e = .returned (.int .i8 125) ∧ w' = w := by
  go_enter Yba.func17, Yba.ntmps17
  go_wp2
  go_ret
  exact ⟨rfl, rfl⟩

/-- What the laws are told of their argument. -/
structure Arg (w : World) (ha : Option Addr) (oa : Option Addr) (fr tz : Int) (hs0 : List Bool) (os0 : List Int) : Prop where
  hv : ∀ k v, hs0[k]? = some v → ∃ b off, ha = some ⟨b, off, none⟩ ∧ w.cell? ⟨b, off + k, none⟩ = some (.bool v)
  ov : ∀ k v, os0[k]? = some v → ∃ b off, oa = some ⟨b, off, none⟩ ∧ w.cell? ⟨b, off + k, none⟩ = some (.int .u16 v)
  ow : ∀ v ∈ os0, 0 ≤ v ∧ v ≤ 65535
  f0 : 0 ≤ fr
  f1 : fr ≤ 65535
  t0 : 0 ≤ tz
  t1 : tz ≤ 65535

theorem Arg.later {w w' : World} {ha oa : Option Addr} {fr tz : Int} {hs0 : List Bool} {os0 : List Int} (h : Arg w ha oa fr tz hs0 os0) (hb : Below w.heap.size w w') : Arg w' ha oa fr tz hs0 os0 :=
  ⟨fun k v hk => by obtain ⟨b, off, e, hc⟩ := h.hv k v hk; exact ⟨b, off, e, cell_later hb hc⟩, fun k v hk => by obtain ⟨b, off, e, hc⟩ := h.ov k v hk; exact ⟨b, off, e, cell_later hb hc⟩, h.ow, h.f0, h.f1, h.t0, h.t1⟩

/-- What lies in memory when the build is done. -/
def Ready (w wx : World) (s3 s4 s5 s6 s7 s8 : Value) : Prop := ∃ (gh gs gn gc gq : Nat) (hs : List Bool) (ss : List Nat) (f t : Nat),
  s3 = .pointer (some ⟨gc, 0, none⟩) ∧ s4 = .pointer (some ⟨gq, 0, none⟩) ∧ s5 = .slice (some ⟨gs, 0, none⟩) ss.length ss.length ∧ s6 = .slice (some ⟨gh, 0, none⟩) hs.length hs.length ∧ s7 = .int .i64 f ∧ s8 = .int .i64 t ∧
  Built w wx 125 gh gs gn gc hs ss f t ∧ RowAt wx gq 51 [.slice (some ⟨gh, 0, none⟩) hs.length hs.length, .pointer none]

theorem RowAt.ne {w : World} {g g' : Nat} {e e' : TypeId} {vs vs' : List Value} (h : RowAt w g e vs) (h' : RowAt w g' e' vs') (he : e ≠ e') : g ≠ g' := by
  rintro rfl
  unfold RowAt at h h'
  rw [h] at h'
  simp at h'
  exact he h'.2
theorem Built.weaken {w wb w' : World} {rel : Int} {gh gs gn gc f t : Nat} {hs : List Bool} {ss : List Nat} (h : Built wb w' rel gh gs gn gc hs ss f t) (hb : Below w.heap.size w wb) : Built w w' rel gh gs gn gc hs ss f t := by
  obtain ⟨h1, h2, h3⟩ := h
  have := hb.size
  exact ⟨hb.trans (h1.mono (by omega)), by omega, h3⟩
theorem Built.set {w w' : World} {rel : Int} {gh gs gn gc f t : Nat} {hs : List Bool} {ss : List Nat} (h : Built w w' rel gh gs gn gc hs ss f t) {gq : Nat} {vs : List Value} (R : RowAt w' gq 51 vs) (hq : w.heap.size ≤ gq) (i : Nat) (v : Value) :
    Built w (w'.setCell ⟨gq, i, none⟩ v) rel gh gs gn gc hs ss f t := by
  obtain ⟨h1, h2, h3, h4, h5, h6, h7⟩ := h
  exact ⟨h1.setCell hq _, h2, h3.other (h3.ne R (by decide)) _, h4.other (h4.ne R (by decide)) _, h5.other (h5.ne R (by decide)) _, h6.other (h6.ne R (by decide)) _, h7⟩
theorem Built.later {w w' w'' : World} {rel : Int} {gh gs gn gc f t : Nat} {hs : List Bool} {ss : List Nat} (h : Built w w' rel gh gs gn gc hs ss f t) (hb : Below w'.heap.size w' w'') : Built w w'' rel gh gs gn gc hs ss f t := by
  obtain ⟨h1, h2, h3, h4, h5, h6, h7⟩ := h
  exact ⟨h1.trans (hb.mono (by have := h1.size; omega)), h2, h3.below hb h3.lt, h4.below hb h4.lt, h5.below hb h5.lt, h6.below hb h6.lt, h7⟩
/-- q's variable was made ahead of the call. -/
theorem ready_before {w wb w' : World} {gh gs gn gc f t : Nat} {hs : List Bool} {ss : List Nat} {z0 z1 : Value} (h : Built wb w' 125 gh gs gn gc hs ss f t) (hb : Below w.heap.size w wb) (R : RowAt wb (w.heap.size + 1) 51 [z0, z1]) :
    Ready w ((w'.setCell ⟨w.heap.size + 1, 0, none⟩ (.slice (some ⟨gh, 0, none⟩) hs.length hs.length)).setCell ⟨w.heap.size + 1, 1, none⟩ (.pointer none)) (.pointer (some ⟨gc, 0, none⟩)) (.pointer (some ⟨w.heap.size + 1, 0, none⟩)) (.slice (some ⟨gs, 0, none⟩) ss.length ss.length) (.slice (some ⟨gh, 0, none⟩) hs.length hs.length) (.int .i64 f) (.int .i64 t) := by
  have R' := R.below h.1 R.lt
  have hB := h.weaken hb
  have R1 := R'.set 0 (.slice (some ⟨gh, 0, none⟩) hs.length hs.length)
  exact ⟨gh, gs, gn, gc, w.heap.size + 1, hs, ss, f, t, rfl, rfl, rfl, rfl, rfl, rfl, (hB.set R' (by omega) 0 _).set R1 (by omega) 1 _, R1.set 1 (.pointer none)⟩
/-- q's variable was made behind the call. -/
theorem ready_after {w wb w' : World} {gh gs gn gc f t : Nat} {hs : List Bool} {ss : List Nat} (h : Built wb w' 125 gh gs gn gc hs ss f t) (hb : Below w.heap.size w wb) :
    Ready w (w'.alloc (.cells #[.slice (some ⟨gh, 0, none⟩) hs.length hs.length, .pointer none] 51)) (.pointer (some ⟨gc, 0, none⟩)) (.pointer (some ⟨w'.heap.size, 0, none⟩)) (.slice (some ⟨gs, 0, none⟩) ss.length ss.length) (.slice (some ⟨gh, 0, none⟩) hs.length hs.length) (.int .i64 f) (.int .i64 t) := by
  have hB := h.weaken hb
  exact ⟨gh, gs, gn, gc, w'.heap.size, hs, ss, f, t, rfl, rfl, rfl, rfl, rfl, rfl, hB.later ((Below.refl _ w').alloc (Nat.le_refl _) _), RowAt.new w' 51 _⟩

set_option maxHeartbeats 1000000 in
/-- (*condition).heldBy at an ordering relation. -/
theorem heldBy_any (gc gn gh ch gs cs : Nat) (c0 c1 c2 c4 n0 n1 n2 n4 tl : Value) (hs : List Bool) (ss : List Nat) (f t : Nat) (w : World)
    (rc : RowAt w gc 64 [c0, c1, c2, .int .i8 125, c4, .pointer (some ⟨gn, 0, none⟩), .int .i64 f, .int .i64 t]) (rn : RowAt w gn 76 [n0, n1, n2, .slice (some ⟨gs, 0, none⟩) ss.length cs, n4])
    (hr : RowAt w gh 4 (boolsV hs)) (sr : RowAt w gs 3 (natsV ss))
    (hin : ∀ n ∈ ss, n < hs.length) (hft : f ≤ t) (htl : t ≤ ss.length) (hcs : ss.length ≤ cs) (hcs' : cs ≤ 1024) (hl' : hs.length ≤ 1025) :
    Calls Yba.prog 20 #[.pointer (some ⟨gc, 0, none⟩), .agg #[.slice (some ⟨gh, 0, none⟩) hs.length ch, tl]] w fun e w' => e = .returned (.bool (held hs ss f t)) ∧ Below w.heap.size w w' := by
  have p3 : w.cell? ⟨gc, 3, none⟩ = some (.int .i8 125) := by rw [rc.cell]; rfl
  have lgc := rc.lt
  obtain ⟨B, hB⟩ : ∃ B, held hs ss f t = B := ⟨_, rfl⟩
  have kc : Hid (Calls Yba.prog 18 #[.pointer (some ⟨gc, 0, none⟩), .agg #[.slice (some ⟨gh, 0, none⟩) hs.length ch, tl]] (w.alloc (.cells #[.slice (some ⟨gh, 0, none⟩) hs.length ch, tl] 51)) fun e w' => e = .returned (.bool B) ∧ Below (w.alloc (.cells #[.slice (some ⟨gh, 0, none⟩) hs.length ch, tl] 51)).heap.size (w.alloc (.cells #[.slice (some ⟨gh, 0, none⟩) hs.length ch, tl] 51)) w') := by
    rw [← hB]
    exact heldInRun_any gc gn gh ch gs cs c0 c1 c2 _ c4 n0 n1 n2 n4 tl hs ss f t _ (rc.alloc _) (rn.alloc _) (hr.alloc _) (sr.alloc _) hin hft htl hcs hcs' hl'
  rw [hB]
  clear hB rc rn hr sr hin
  go_enter Yba.func20, Yba.ntmps20
  go_wp2_with (go_at_call 18; refine kc.out.mono ?_; rintro e w' ⟨rfl, hb⟩)
  go_ret
  exact ⟨rfl, ((Below.refl _ w).alloc (Nat.le_refl _) _).trans (hb.mono (by simp))⟩

set_option maxHeartbeats 1000000 in
theorem heldBy_walk (ha : Option Addr) (hc : Nat) (last : Bool) (oa : Option Addr) (oc : Nat) (fr tz : Int) (hs0 : List Bool) (os0 : List Int) (w : World) (A : Arg w ha oa fr tz hs0 os0) (hl : hs0.length ≤ 1024) (ol : os0.length ≤ 1024) :
    Calls Yba.prog 7 #[.agg #[.slice ha hs0.length hc, .bool last, .slice oa os0.length oc, .int .u16 fr, .int .u16 tz]] w fun e w' => e = .returned (.bool true) ∧ Below w.heap.size w w' := by
  obtain ⟨n, hn⟩ : ∃ n, hs0.length = n := ⟨_, rfl⟩
  obtain ⟨l, hll⟩ : ∃ l, os0.length = l := ⟨_, rfl⟩
  have kb : Hid (∀ w', Below w.heap.size w w' → Calls Yba.prog 16 #[.agg #[.slice ha n hc, .bool last, .slice oa l oc, .int .u16 fr, .int .u16 tz], .int .i8 125] w' fun e w'' => ∃ (gh gs gn gc : Nat) (hs : List Bool) (ss : List Nat) (f t : Nat),
      e = .returned (.tuple #[.pointer (some ⟨gc, 0, none⟩), .agg #[.slice (some ⟨gh, 0, none⟩) hs.length hs.length, .pointer none], .slice (some ⟨gs, 0, none⟩) ss.length ss.length, .slice (some ⟨gh, 0, none⟩) hs.length hs.length, .int .i64 f, .int .i64 t]) ∧ Built w' w'' 125 gh gs gn gc hs ss f t) := fun w' hb => by
    rw [← hn, ← hll]
    have A' := A.later hb
    exact build_any ha hc last oa oc fr tz 125 hs0 os0 w' A'.hv A'.ov A'.ow A'.f0 A'.f1 A'.t0 A'.t1 hl ol
  rw [hn] at hl ⊢
  rw [hll] at ol ⊢
  clear hn hll A
  go_enter Yba.func7, Yba.ntmps7
  go_upto_region 3 with fail
  go_cut [3, 4, 5, 6, 7, 8] (fun s3 s4 s5 s6 s7 s8 wx => Ready w wx s3 s4 s5 s6 s7 s8)
  case first =>
    go_region_held3 (fun wy => wy.cell? ⟨w.heap.size, 0, none⟩ = some (.slice ha n hc) ∧ wy.cell? ⟨w.heap.size, 1, none⟩ = some (.bool last) ∧ wy.cell? ⟨w.heap.size, 2, none⟩ = some (.slice oa l oc) ∧ wy.cell? ⟨w.heap.size, 3, none⟩ = some (.int .u16 fr) ∧ wy.cell? ⟨w.heap.size, 4, none⟩ = some (.int .u16 tz)) (first | (simp [go_sem, World.cell?_alloc_past]; done) | (simp [*, go_sem]; done))
      (first
        | (go_at_call 17; refine (ordering_any _).mono ?_; rintro e w' ⟨rfl, hw⟩; subst hw)
        | (go_at_call 16; refine (kb.out _ ?_).mono ?_; (first | exact ((Below.refl _ w).alloc (Nat.le_refl _) _).drew | exact (((Below.refl _ w).alloc (Nat.le_refl _) _).alloc (by simp) _).drew | exact ((Below.refl _ w).alloc (Nat.le_refl _) _) | exact (((Below.refl _ w).alloc (Nat.le_refl _) _).alloc (by simp) _)); rintro e w' ⟨gh, gs, gn, gc, hs, ss, f, t, rfl, hB⟩; obtain ⟨hc', hf'⟩ := bcell hB.1; have hz' := hB.1.size; simp at hz'; have HB := hid hB; clear hB; have hz1 : w.heap.size < w'.heap.size := by omega))
    all_goals
      go_wp2
      go_meet
      case rel =>
        first
          | exact ready_after HB.out (((Below.refl _ w).alloc (Nat.le_refl _) _).drew)
          | (have hR := (RowAt.new (w.alloc (.cells #[.slice ha n hc, .bool last, .slice oa l oc, .int .u16 fr, .int .u16 tz] 47)) 51 [.slice none 0 0, .pointer none]); simp at hR; exact ready_before HB.out ((((Below.refl _ w).alloc (Nat.le_refl _) _).alloc (by simp) _).drew) hR.drew)
  case rest =>
    obtain ⟨gh, gs, gn, gc, gq, hs, ss, f, t, rfl, rfl, rfl, rfl, rfl, rfl, hB, hQ⟩ := hcut
    obtain ⟨hb, _, rh, rs, rn, rc, hin, hft, htl, hl1, hl2⟩ := hB
    obtain ⟨B, hBB⟩ : ∃ B, held hs ss f t = B := ⟨_, rfl⟩
    have km : Hid (Calls Yba.prog 19 #[.slice (some ⟨gh, 0, none⟩) hs.length hs.length, .slice (some ⟨gs, 0, none⟩) ss.length ss.length, .int .i64 f, .int .i64 t] wc fun e w' => e = .returned (.bool B) ∧ w' = wc) := by
      rw [← hBB]; exact cmodel_any gh _ gs _ hs ss f t wc rh rs hin hft htl hl1 hl2
    have k20 : Hid (Calls Yba.prog 20 #[.pointer (some ⟨gc, 0, none⟩), .agg #[.slice (some ⟨gh, 0, none⟩) hs.length hs.length, .pointer none]] wc fun e w' => e = .returned (.bool B) ∧ Below wc.heap.size wc w') := by
      rw [← hBB]; exact heldBy_any gc gn gh _ gs _ _ _ _ _ _ _ _ _ _ hs ss f t wc rc rn rh rs hin hft htl (Nat.le_refl _) hl1 hl2
    have k18 : Hid (∀ w1, Below wc.heap.size wc w1 → Calls Yba.prog 18 #[.pointer (some ⟨gc, 0, none⟩), .agg #[.slice (some ⟨gh, 0, none⟩) hs.length hs.length, .pointer none]] w1 fun e w' => e = .returned (.bool B) ∧ Below w1.heap.size w1 w') := fun w1 h1 => by
      rw [← hBB]; exact heldInRun_any gc gn gh _ gs _ _ _ _ _ _ _ _ _ _ _ hs ss f t w1 (rc.below h1 rc.lt) (rn.below h1 rn.lt) (rh.below h1 rh.lt) (rs.below h1 rs.lt) hin hft htl (Nat.le_refl _) hl1 hl2
    have x0 : wc.cell? ⟨gq, 0, none⟩ = some (.slice (some ⟨gh, 0, none⟩) hs.length hs.length) := by rw [hQ.cell]; rfl
    have x1 : wc.cell? ⟨gq, 1, none⟩ = some (.pointer none) := by rw [hQ.cell]; rfl
    have lq := hQ.lt
    have hsz := hb.size
    clear hBB rh rs rn rc hin hQ kb
    go_wp2_with (first
      | (go_at_call 19; refine km.out.mono ?_; rintro e w' ⟨rfl, hw⟩; subst hw)
      | (go_at_call 20; refine k20.out.mono ?_; rintro e w1 ⟨rfl, hb1⟩; obtain ⟨hc1, hf1⟩ := bcell hb1; have lq1 : gq < w1.heap.size := by { have := hb1.size; omega })
      | (go_at_call 18; refine (k18.out _ hb1).mono ?_; rintro e w2 ⟨rfl, hb2⟩))
    go_ret
    have hs1 := hb1.size
    exact ⟨rfl, (hb.trans (hb1.mono hsz)).trans (hb2.mono (by omega))⟩
set_option maxHeartbeats 1000000 in
theorem cmodel_walk (ha : Option Addr) (hc : Nat) (last : Bool) (oa : Option Addr) (oc : Nat) (fr tz : Int) (hs0 : List Bool) (os0 : List Int) (w : World) (A : Arg w ha oa fr tz hs0 os0) (hl : hs0.length ≤ 1024) (ol : os0.length ≤ 1024) :
    Calls Yba.prog 6 #[.agg #[.slice ha hs0.length hc, .bool last, .slice oa os0.length oc, .int .u16 fr, .int .u16 tz]] w fun e w' => e = .returned (.bool true) ∧ Below w.heap.size w w' := by
  obtain ⟨n, hn⟩ : ∃ n, hs0.length = n := ⟨_, rfl⟩
  obtain ⟨l, hll⟩ : ∃ l, os0.length = l := ⟨_, rfl⟩
  have kb : Hid (∀ w', Below w.heap.size w w' → Calls Yba.prog 16 #[.agg #[.slice ha n hc, .bool last, .slice oa l oc, .int .u16 fr, .int .u16 tz], .int .i8 125] w' fun e w'' => ∃ (gh gs gn gc : Nat) (hs : List Bool) (ss : List Nat) (f t : Nat),
      e = .returned (.tuple #[.pointer (some ⟨gc, 0, none⟩), .agg #[.slice (some ⟨gh, 0, none⟩) hs.length hs.length, .pointer none], .slice (some ⟨gs, 0, none⟩) ss.length ss.length, .slice (some ⟨gh, 0, none⟩) hs.length hs.length, .int .i64 f, .int .i64 t]) ∧ Built w' w'' 125 gh gs gn gc hs ss f t) := fun w' hb => by
    rw [← hn, ← hll]
    have A' := A.later hb
    exact build_any ha hc last oa oc fr tz 125 hs0 os0 w' A'.hv A'.ov A'.ow A'.f0 A'.f1 A'.t0 A'.t1 hl ol
  rw [hn] at hl ⊢
  rw [hll] at ol ⊢
  clear hn hll A
  go_enter Yba.func6, Yba.ntmps6
  go_upto_region 3 with fail
  go_cut [3, 4, 5, 6, 7, 8] (fun s3 s4 s5 s6 s7 s8 wx => Ready w wx s3 s4 s5 s6 s7 s8)
  case first =>
    go_region_held3 (fun wy => wy.cell? ⟨w.heap.size, 0, none⟩ = some (.slice ha n hc) ∧ wy.cell? ⟨w.heap.size, 1, none⟩ = some (.bool last) ∧ wy.cell? ⟨w.heap.size, 2, none⟩ = some (.slice oa l oc) ∧ wy.cell? ⟨w.heap.size, 3, none⟩ = some (.int .u16 fr) ∧ wy.cell? ⟨w.heap.size, 4, none⟩ = some (.int .u16 tz)) (first | (simp [go_sem, World.cell?_alloc_past]; done) | (simp [*, go_sem]; done))
      (first
        | (go_at_call 17; refine (ordering_any _).mono ?_; rintro e w' ⟨rfl, hw⟩; subst hw)
        | (go_at_call 16; refine (kb.out _ ?_).mono ?_; (first | exact ((Below.refl _ w).alloc (Nat.le_refl _) _).drew | exact (((Below.refl _ w).alloc (Nat.le_refl _) _).alloc (by simp) _).drew | exact ((Below.refl _ w).alloc (Nat.le_refl _) _) | exact (((Below.refl _ w).alloc (Nat.le_refl _) _).alloc (by simp) _)); rintro e w' ⟨gh, gs, gn, gc, hs, ss, f, t, rfl, hB⟩; obtain ⟨hc', hf'⟩ := bcell hB.1; have hz' := hB.1.size; simp at hz'; have HB := hid hB; clear hB; have hz1 : w.heap.size < w'.heap.size := by omega))
    all_goals
      go_wp2
      go_meet
      case rel =>
        first
          | exact ready_after HB.out (((Below.refl _ w).alloc (Nat.le_refl _) _).drew)
          | (have hR := (RowAt.new (w.alloc (.cells #[.slice ha n hc, .bool last, .slice oa l oc, .int .u16 fr, .int .u16 tz] 47)) 51 [.slice none 0 0, .pointer none]); simp at hR; exact ready_before HB.out ((((Below.refl _ w).alloc (Nat.le_refl _) _).alloc (by simp) _).drew) hR.drew)
  case rest =>
    obtain ⟨gh, gs, gn, gc, gq, hs, ss, f, t, rfl, rfl, rfl, rfl, rfl, rfl, hB, hQ⟩ := hcut
    obtain ⟨hb, _, rh, rs, rn, rc, hin, hft, htl, hl1, hl2⟩ := hB
    obtain ⟨B, hBB⟩ : ∃ B, held hs ss f t = B := ⟨_, rfl⟩
    obtain ⟨Z, hZ⟩ : ∃ Z, List.replicate hs.length (Value.bool false) = Z := ⟨_, rfl⟩
    obtain ⟨C, hC⟩ : ∃ C, boolsV hs = C := ⟨_, rfl⟩
    have hmk := fun w => make_bools hs.length hl2 w
    rw [hZ] at hmk
    have lZ : Z.length = hs.length := by rw [← hZ]; simp
    have lC : C.length = hs.length := by rw [← hC]; simp [boolsV]
    have hg : Hid ((wc.alloc (.cells Z.toArray 4)).heap[wc.heap.size]? = some (.cells Z.toArray 4 (0, 0))) := RowAt.new wc 4 Z
    have hpos : Hid (0 < C.length → (some ⟨wc.heap.size, 0, none⟩ : Option Addr) = some ⟨wc.heap.size, 0, none⟩ ∧ ∃ ad, (some ⟨gh, 0, none⟩ : Option Addr) = some ad ∧ ∀ j v, C[j]? = some v → (wc.alloc (.cells Z.toArray 4)).cell? (ad.add j) = some v) := by
      intro _
      refine ⟨rfl, ⟨gh, 0, none⟩, rfl, fun j v hj => ?_⟩
      rw [add_plain, Nat.zero_add, (rh.alloc _).cell, hC]
      exact hj
    have hone : Hid (∀ v ∈ C, v.oneCell' = true) := by
      intro v hv
      rw [← hC] at hv
      obtain ⟨u, _, rfl⟩ := List.mem_map.1 hv
      rfl
    have KMIN : Hid (C.length = Nat.min hs.length hs.length) := by rw [lC]; exact (Nat.min_self _).symm
    have KFIT : Hid (0 + C.length ≤ Z.length) := by
      show 0 + C.length ≤ Z.length
      omega
    have K2 : Hid (∀ w2 : World, w2.heap[wc.heap.size]? = some (.cells (splice Z 0 C).toArray 4 (0, 0)) → RowAt w2 wc.heap.size 4 (boolsV hs)) := fun w2 h => by
      rw [splice_all Z C (by rw [lC, lZ])] at h
      rw [hC]; exact h
    have hb0 : Hid (Below wc.heap.size wc (wc.alloc (.cells Z.toArray 4))) := (Below.refl _ wc).alloc (Nat.le_refl _) _
    have km : Hid (∀ w1, Below wc.heap.size wc w1 → RowAt w1 wc.heap.size 4 (boolsV hs) → Calls Yba.prog 19 #[.slice (some ⟨wc.heap.size, 0, none⟩) hs.length hs.length, .slice (some ⟨gs, 0, none⟩) ss.length ss.length, .int .i64 f, .int .i64 t] w1 fun e w' => e = .returned (.bool B) ∧ w' = w1) := fun w1 h1 hr1 => by
      rw [← hBB]; exact cmodel_any _ _ gs _ hs ss f t w1 hr1 (rs.below h1 rs.lt) hin hft htl hl1 hl2
    have k18 : Hid (∀ w1, Below wc.heap.size wc w1 → Calls Yba.prog 18 #[.pointer (some ⟨gc, 0, none⟩), .agg #[.slice (some ⟨gh, 0, none⟩) hs.length hs.length, .pointer none]] w1 fun e w' => e = .returned (.bool B) ∧ Below w1.heap.size w1 w') := fun w1 h1 => by
      rw [← hBB]; exact heldInRun_any gc gn gh _ gs _ _ _ _ _ _ _ _ _ _ _ hs ss f t w1 (rc.below h1 rc.lt) (rn.below h1 rn.lt) (rh.below h1 rh.lt) (rs.below h1 rs.lt) hin hft htl (Nat.le_refl _) hl1 hl2
    have hsz := hb.size
    have RH := hid rh
    have RC := hid rc
    have HQ := hid hQ
    have lq := hQ.lt
    have lc := rc.lt
    have XQ : Hid (∀ w1, Below wc.heap.size wc w1 → w1.cell? ⟨gq, 0, none⟩ = some (.slice (some ⟨gh, 0, none⟩) hs.length hs.length) ∧ w1.cell? ⟨gq, 1, none⟩ = some (.pointer none)) := fun w1 h1 =>
      ⟨by rw [h1.cell hQ.lt, hQ.cell]; rfl, by rw [h1.cell hQ.lt, hQ.cell]; rfl⟩
    clear hBB hZ hC lZ lC rh rs rn rc hin hQ kb
    go_wp2_with (first
      | (refine wpList_copy_splice rfl (.tmp 35) (.tmp 36) 44 44 rfl 4 Yba.underlying44 size4 (some ⟨wc.heap.size, 0, none⟩) (some ⟨gh, 0, none⟩) hs.length hs.length hs.length hs.length rfl rfl wc.heap.size 0 Z 4 hg.out C KMIN.out hpos.out KFIT.out hone.out wc.heap.size wc hb0.out (Nat.le_refl _) ?_; intro w2 HG2 hB2; have R2 := hid (K2.out w2 HG2.out); obtain ⟨x0, x1⟩ := XQ.out w2 hB2)
      | (go_at_call 18; refine (k18.out _ hB2).mono ?_; rintro e w3 ⟨rfl, hb3⟩; have hB3 := hB2.trans (hb3.mono hB2.size); have R3 := hid (R2.out.below hb3 R2.out.lt))
      | (go_at_call 19; refine (km.out _ hB3 R3.out).mono ?_; rintro e w4 ⟨rfl, hw⟩; subst hw))
    go_loopw [11, 50] (fun _ i wr => ∃ k : Nat, k ≤ hs.length ∧ i = .int .i64 k ∧ Below wc.heap.size wc wr ∧ RowAt wr wc.heap.size 4 (boolsV hs)) (fun _ i _ => hs.length - (intOf i).toNat)
    case atStart => exact ⟨0, Nat.zero_le _, rfl, hB3, R3.out⟩
    case round =>
      obtain ⟨k, hk, rfl, hbr, hrr⟩ := hrel
      have HRR := hid hrr
      clear hrr
      by_cases hlt : k < hs.length
      · obtain ⟨v, hv⟩ := get_of_lt hlt
        have d1 : wr.cell? ⟨gh, k, none⟩ = some (.bool v) := by rw [hbr.cell RH.out.lt, RH.out.cell]; exact boolsV_get hv
        have d2 : wr.cell? ⟨wc.heap.size, k, none⟩ = some (.bool v) := by rw [HRR.out.cell]; exact boolsV_get hv
        clear hv
        have i0 : (0 : Int) ≤ (k : Int) := by omega
        have i1 : (k : Int) < (hs.length : Int) := by omega
        go_wp2
        go_quiet (fail)
        go_wp2
        go_roundw
        case rel => exact ⟨k + 1, by omega, by go_num, below_drewN hbr _, HRR.out.drewN _⟩
        case measure => simp [intOf]; omega
      · have e6 : wr.cell? ⟨gc, 6, none⟩ = some (.int .i64 f) := by rw [hbr.cell RC.out.lt, RC.out.cell]; rfl
        have e7 : wr.cell? ⟨gc, 7, none⟩ = some (.int .i64 t) := by rw [hbr.cell RC.out.lt, RC.out.cell]; rfl
        go_wp2
        go_ret
        exact ⟨rfl, hb.trans (hbr.mono hsz)⟩
end Go.Proofs.Ybulkcwhe
