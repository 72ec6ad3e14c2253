import Derived.Test.YbulkcwheSum0
namespace Go.Proofs.Ybulkcwhe
open Go.RowKit
set_option linter.unusedVariables false

set_option maxRecDepth 20000 in
set_option maxHeartbeats 2000000 in
theorem sum_carry (x0 y0 : Int) (w : World) (a : Word x0) (c : Word y0) (hcar : (x0 + y0) / 18446744073709551616 = 1) :
    Calls Yba.prog 5 #[.int .u64 x0, .int .u64 0, .bool false, .int .u64 y0, .int .u64 0, .bool false] w fun e w' => e = .returned (.bool true) ∧ Below w.heap.size w w' := by
  have b : Word 0 := ⟨by omega, by omega⟩
  have d : Word 0 := ⟨by omega, by omega⟩
  obtain ⟨wX, lX⟩ := wN_words a b
  obtain ⟨wY, lY⟩ := wN_words c d
  have kx := hid (fun w => num_small x0 w)
  have ky := hid (fun w => num_small y0 w)
  have kp : Hid (∀ w1 , NumV w1 w1.heap.size x0 (none) (wN x0 0) → NumV w1 w1.heap.size y0 (none) (wN y0 0) → Calls Yba.prog 11 #[.agg #[.int .u64 x0, .pointer none], .agg #[.int .u64 y0, .pointer none]] w1 fun e w' => ∃ gr, e = .returned (.agg #[.int .u64 0, .pointer (some ⟨gr, 0, none⟩)]) ∧ IntR w' w1.heap.size gr (addW (wN x0 0) (wN y0 0)) ∧ Below w1.heap.size w1 w') := fun w1 h1 h2 =>
    plus_big x0 y0 _ _ _ _ w1 a c h1 h2 lX lY wX wY (fun h _ => addW_ne a b c d h) (fun _ _ => hcar)
  clear wX wY lX lY
  go_enter Yba.func5, Yba.ntmps5
  go_wp2_with fail
  refine (kx.out _).mono ?_
  rintro e w1 ⟨rfl, b1⟩
  have B1 := hid b1
  clear b1
  go_wp2_with fail
  refine (ky.out _).mono ?_
  rintro e w2 ⟨rfl, b2⟩
  have z1 : w1.heap.size < w2.heap.size := by have := b2.size; simp at this; omega
  have bx2 : RowAt w2 w1.heap.size 31 [.int .u64 x0, .pointer (none)] := (RowAt.new w1 31 [.int .u64 x0, .pointer (none)]).below b2 (by simp)
  have b12 : Below w1.heap.size w1 w2 := ((Below.refl _ w1).alloc (Nat.le_refl _) _).trans (b2.mono (by simp))
  have q0 : w2.cell? ⟨w1.heap.size, 0, none⟩ = some (.int .u64 x0) := by rw [bx2.cell]; rfl
  have q1 : w2.cell? ⟨w1.heap.size, 1, none⟩ = some (.pointer (none)) := by rw [bx2.cell]; rfl
  have BX2 := hid bx2
  have B12 := hid b12
  clear b2 bx2 b12
  go_wp2_with fail
  have c3 : NumV (w2.alloc (.cells #[.int .u64 y0, .pointer (none)] 31)) (w2.alloc (.cells #[.int .u64 y0, .pointer (none)] 31)).heap.size x0 (none) (wN x0 0) := .inl ⟨rfl, by simp [wN]⟩
  have c4 : NumV (w2.alloc (.cells #[.int .u64 y0, .pointer (none)] 31)) (w2.alloc (.cells #[.int .u64 y0, .pointer (none)] 31)).heap.size y0 (none) (wN y0 0) := .inl ⟨rfl, by simp [wN]⟩
  refine (kp.out _ c3 c4).mono ?_
  clear c3 c4
  rintro e w3 ⟨gr, rfl, ir, b3⟩
  have b23 : Below w2.heap.size w2 w3 := ((Below.refl _ w2).alloc (Nat.le_refl _) _).trans (b3.mono (by simp))
  have by3 : RowAt w3 w2.heap.size 31 [.int .u64 y0, .pointer (none)] := (RowAt.new w2 31 [.int .u64 y0, .pointer (none)]).below b3 (by simp)
  obtain ⟨W, hW⟩ : ∃ W, w3.alloc (.cells #[.int .u64 0, .pointer (some ⟨gr, 0, none⟩)] 31) = W := ⟨_, rfl⟩
  have b3W : Below w3.heap.size w3 W := by rw [← hW]; exact (Below.refl _ w3).alloc (Nat.le_refl _) _
  have hgr : w2.heap.size < gr := by have := ir.1; simp at this; omega
  have s12 := B12.out.size
  have s23 := b23.size
  have M : Made w W w1.heap.size w2.heap.size w3.heap.size gr (none) (none) x0 y0 (wN x0 0) (wN y0 0) (addW (wN x0 0) (wN y0 0)) := {
    bel := (((B1.out.trans (B12.out.mono B1.out.size)).trans (b23.mono (by have := B1.out.size; omega))).trans (b3W.mono (by have := B1.out.size; omega)))
    rx := (BX2.out.below b23 BX2.out.lt).below b3W (by omega)
    ry := by3.below b3W by3.lt
    rr := by rw [← hW]; exact RowAt.new w3 31 _
    nx := .inl rfl
    ny := .inl rfl
    nr := (ir.later b3W).mono (Nat.zero_le _) }
  clear ir b3 b23 by3 b3W hgr s12 s23 BX2 B12 B1 q0 q1 z1 kp
  go_upto_region 4 with fail
  clear hW
  generalize w1.heap.size = bx at M ⊢
  generalize w2.heap.size = by' at M ⊢
  generalize w3.heap.size = br at M ⊢
  have hR : addW (wN x0 0) (wN y0 0) = nrm [s0W x0 y0, s1W x0 0 y0 0, s2W x0 0 y0 0] := addW_wN x0 0 y0 0 a b c d
  obtain ⟨s0, es0⟩ : ∃ s, s0W x0 y0 = s := ⟨_, rfl⟩
  obtain ⟨s1, es1⟩ : ∃ s, s1W x0 0 y0 0 = s := ⟨_, rfl⟩
  obtain ⟨s2, es2⟩ : ∃ s, s2W x0 0 y0 0 = s := ⟨_, rfl⟩
  obtain ⟨c0, ec0⟩ : ∃ s, (x0 + y0) / 18446744073709551616 = s := ⟨_, rfl⟩
  rw [es0, es1, es2] at hR
  have hc0 : 0 ≤ c0 ∧ c0 ≤ 1 := by obtain ⟨a1, a2⟩ := a; obtain ⟨c1, c2⟩ := c; omega
  have hs1 : (s1 == 0) = false := by
    unfold s1W at es1
    rw [hcar] at es1
    have : s1 = 1 := by omega
    simp [this]
  have h12a : ∀ w, (callFunc 12 #[.int .u64 x0, .int .u64 y0, .int .u64 0]).run Yba.prog w = .ok (.value (.tuple #[.int .u64 s0, .int .u64 c0])) w := fun w => by
    have h := add64_run0 x0 y0 a.1 c.1 w
    unfold s0W at es0
    rw [es0, ec0] at h
    exact h
  have h12b : ∀ w, (callFunc 12 #[.int .u64 0, .int .u64 0, .int .u64 c0]).run Yba.prog w = .ok (.value (.tuple #[.int .u64 s1, .int .u64 s2])) w := fun w => by
    have h := add64_run 0 0 c0 b.1 d.1 hc0.1 hc0.2 w
    unfold s1W at es1
    unfold s2W at es2
    rw [ec0] at es1 es2
    rw [es1, es2] at h
    exact h
  have rx1 : W.cell? ⟨bx, 1, none⟩ = some (.pointer (none)) := by rw [M.rx.cell]; rfl
  have ry1 : W.cell? ⟨by', 1, none⟩ = some (.pointer (none)) := by rw [M.ry.cell]; rfl
  have rr0 : W.cell? ⟨br, 0, none⟩ = some (.int .u64 0) := by rw [M.rr.cell]; rfl
  have rr1 : W.cell? ⟨br, 1, none⟩ = some (.pointer (some ⟨gr, 0, none⟩)) := by rw [M.rr.cell]; rfl
  have lx := M.rx.lt
  have ly := M.ry.lt
  have lr := M.rr.lt
  have igr := M.nr
  rw [hR] at igr
  have ks := hid (sign_any 0 gr _ W igr)
  obtain ⟨_, ra, rc, rowr, hrc, hrlc, hrr⟩ := igr
  have hNlen : (nrm [s0, s1, s2]).length = normLen [s0, s1, s2] 3 := nrm_length _
  rw [hNlen] at rowr hrlc
  obtain ⟨N, hN⟩ : ∃ N, normLen [s0, s1, s2] 3 = N := ⟨_, rfl⟩
  rw [hN] at rowr hrlc hNlen
  have HN := hid hN
  have HNL := hid hNlen
  have HRR := hid hrr
  have MM := hid M
  have ROWR := hid rowr
  have HRC := hid hrc
  have HRL := hid hrlc
  clear es0 es1 es2 ec0 hc0 hR M hN hNlen hrr rowr kx ky hrc hrlc hcar
  go_upto_region 14 with fail
  go_wp2_with fail
  refine ks.out.mono ?_
  rintro e w' ⟨sg, rfl, hsg, hw⟩
  subst hw
  clear a b c d h12a h12b ks
  go_upto_block 0 with fail
  obtain ⟨W5, hW5⟩ : ∃ W5, w'.alloc (.cells #[.int .u64 s0, .int .u64 s1, .int .u64 s2] 28) = W5 := ⟨_, rfl⟩
  rw [hW5]
  have b5 : Below w'.heap.size w' W5 := by rw [← hW5]; exact (Below.refl _ w').alloc (Nat.le_refl _) _
  have r5 : RowAt W5 w'.heap.size 28 (wordsV [s0, s1, s2]) := by rw [← hW5]; exact RowAt.new w' 28 _
  have B5 := hid b5
  have R5 := hid r5
  have R5C : Hid (∀ k v, [s0, s1, s2][k]? = some v → W5.cell? ⟨w'.heap.size, k, none⟩ = some (.int .u64 v)) := fun k v h => by rw [r5.cell]; exact wordsV_get h
  clear b5 r5 hW5
  go_cut [23] (fun i wx => i = .int .i64 N ∧ wx = W5)
  case first =>
    go_wp2
    go_loop [23] (fun i => ∃ k : Nat, k ≤ 3 ∧ N ≤ k ∧ i = .int .i64 k ∧ normLen [s0, s1, s2] k = N) (fun i => (intOf i).toNat)
    case atStart => exact ⟨3, by omega, HN.out ▸ normLen_le _ 3, rfl, HN.out⟩
    case round =>
      obtain ⟨k, hk, hNk, rfl, hkN⟩ := hrel
      have HK := hid hkN
      clear hkN
      cases k with
      | zero =>
        have e0 : N = 0 := by omega
        go_wp2
        go_meet
        case rel => exact ⟨by rw [e0]; rfl, rfl⟩
      | succ k =>
        obtain ⟨v, hv⟩ := get_of_lt (show k < [s0, s1, s2].length by simp; omega)
        have c1 := R5C.out k v hv
        have HV := hid hv
        clear hv
        by_cases hz : v = 0
        · subst hz
          have hk' : normLen [s0, s1, s2] k = N := by have := HK.out; unfold normLen at this; rw [HV.out] at this; simpa using this
          have HK' := hid hk'
          have hNk' : N ≤ k := hk' ▸ normLen_le _ k
          clear hk'
          go_wp2
          go_round
          case rel => exact ⟨k, by omega, hNk', by go_num, HK'.out⟩
          case measure => simp [intOf]
        · have hz' : (v == 0) = false := by simpa using hz
          have hk' : N = k + 1 := by have := HK.out; unfold normLen at this; rw [HV.out] at this; simp [hz] at this; omega
          go_wp2
          go_meet
          case rel => exact ⟨by rw [hk']; go_num, rfl⟩
  case rest =>
    obtain ⟨rfl, rfl⟩ := hcut
    have rr1' : wc.cell? ⟨br, 1, none⟩ = some (.pointer (some ⟨gr, 0, none⟩)) := by rw [B5.out.cell lr]; exact rr1
    have kb := hid (bits_any gr ra N rc wc (ROWR.out.below B5.out ROWR.out.lt))
    have hN3 : N ≤ 3 := HN.out ▸ normLen_le _ 3
    have hrc := HRC.out
    have hrl := HRL.out
    have ELEM : Hid (∀ k, k < N → ∃ g v, ra = some ⟨g, 0, none⟩ ∧ wc.cell? ⟨g, k, none⟩ = some (.int .u64 v) ∧ wc.cell? ⟨w'.heap.size, k, none⟩ = some (.int .u64 v)) := fun k hk => by
      rcases HRR.out with ⟨h0, _⟩ | ⟨_, g, rest, _, h1, h2⟩
      · have := HNL.out; rw [h0] at this; simp at this; omega
      · have hk3 : k < [s0, s1, s2].length := by simp; omega
        obtain ⟨v, hv⟩ := get_of_lt hk3
        refine ⟨g, v, h1, ?_, R5C.out k v hv⟩
        rw [(h2.below B5.out h2.lt).cell]
        apply wordsV_get
        rw [List.getElem?_append_left (by rw [HNL.out]; exact hk)]
        unfold nrm
        rw [List.getElem?_take_of_lt (by rw [show [s0, s1, s2].length = 3 from rfl, HN.out]; exact hk)]
        exact hv
    go_wp2_with (go_at_call 14; refine kb.out.mono ?_; rintro e w6 ⟨rfl, hw⟩; subst hw)
    go_loopw [25] (fun i wr => ∃ k : Nat, k ≤ N ∧ i = .int .i64 k ∧ Below w6.heap.size w6 wr) (fun i _ => N - (intOf i).toNat)
    case atStart => exact ⟨0, Nat.zero_le _, rfl, Below.refl _ _⟩
    case round =>
      obtain ⟨k, hk, rfl, hbr⟩ := hrel
      have HBR := hid hbr
      clear hbr
      by_cases hlt : k < N
      · obtain ⟨g, v, rfl, d1, d2⟩ := ELEM.out k hlt
        have d1' := cell_later HBR.out d1
        have d2' := cell_later HBR.out d2
        have i0 : (0 : Int) ≤ (k : Int) := by omega
        have i1 : (k : Int) < (N : Int) := by omega
        have i2 : (k : Int) < 3 := by omega
        clear d1 d2
        go_wp2
        go_quiet (fail)
        go_wp2
        go_roundw
        case rel => exact ⟨k + 1, by omega, by go_num, below_drewN HBR.out _⟩
        case measure => simp [intOf]; omega
      · have hbw : Below w'.heap.size w' wr := B5.out.trans (HBR.out.mono B5.out.size)
        have sw : w'.heap.size ≤ wr.heap.size := hbw.size
        have ex : wr.cell? ⟨bx, 1, none⟩ = some (.pointer (none)) := (hbw.cell lx).trans rx1
        have ey : wr.cell? ⟨by', 1, none⟩ = some (.pointer (none)) := (hbw.cell ly).trans ry1
        have BW := hid (MM.out.bel.trans (hbw.mono MM.out.bel.size))
        clear hbw
        go_upto_region 28 with fail
        clear hrc hrl hN3 hk hlt hsg rr0 rr1 rr1' lr
        go_cut [150] (fun s wx => s = .bool false ∧ Below wr.heap.size wr wx)
        case first =>
          go_quiet (fail)
          go_wp2
          go_meet
          case rel => exact ⟨rfl, below_drewN (Below.refl _ _) _⟩
        case rest =>
          obtain ⟨rfl, hb9⟩ := hcut
          rename World => wr2
          have s9 := hb9.size
          have ey2 := (hb9.cell (p := ⟨by', 1, none⟩) (show by' < wr.heap.size by omega)).trans ey
          have BW2 := hid (BW.out.trans (hb9.mono BW.out.size))
          have sw2 : w'.heap.size ≤ wr2.heap.size := by omega
          clear hb9 ey
          go_upto_region 30 with fail
          go_cut [163] (fun s wx => s = .bool false ∧ Below wr2.heap.size wr2 wx)
          case first =>
            go_quiet (fail)
            go_wp2
            go_meet
            case rel => exact ⟨rfl, below_drewN (Below.refl _ _) _⟩
          case rest =>
            obtain ⟨rfl, hb9⟩ := hcut
            go_wp2
            go_ret
            exact ⟨rfl, BW2.out.trans (hb9.mono BW2.out.size)⟩
end Go.Proofs.Ybulkcwhe
