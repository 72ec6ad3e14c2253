import Derived.Test.YbulkcwnqLaw2
import Derived.BigRegion
namespace Go.Proofs.Ybulkcwnq
open Go.RowKit Go.Lib
attribute [local go_sem ↓] Go.wp_at_zero Go.wp_at_succ

set_option maxRecDepth 20000 in
set_option maxHeartbeats 64000000 in
theorem law_any (a0 a1 a3 a4 : Option Addr) (c0 c1 c3 c4 : Nat) (ids gaps : List Int) (kraw : Int) (rst : List (Option Addr × Nat × List Int)) (ents : List Int) (w : World) (A : ArgsAt w a0 a1 a3 a4 ids gaps rst ents) (h0 : ids.length ≤ 2048) (h1 : rst.length ≤ 1024) (hk0 : 0 ≤ kraw) (hk1 : kraw ≤ 65535) (_hg : gaps.length ≤ maxLen) (he : ents.length ≤ maxLen) :
    Calls Yba.prog 4 #[.slice a0 ids.length c0, .slice a1 gaps.length c1, .int .u16 kraw, .slice a3 rst.length c3, .slice a4 ents.length c4] w fun e w' => e = .returned (.bool true) ∧ Below w.heap.size w w' := by
  unfold maxLen at _hg he
  have AA := hid A
  clear A
  go_enter Yba.func4, Yba.ntmps4
  go_upto_block 0 with fail
  go_cut [12] from 52 to 59 (fun _ wx => wx = w ∧ ∀ (u : Nat) (r : Option Addr × Nat × List Int), rst[u]? = some r → r.2.2.length ≤ 1024)
  case first =>
    as_aux_lemma =>
      go_wp2_with fail
      go_loopw [12, 52] (fun _ i wr => wr = w ∧ ∃ n : Nat, i = .int .i64 n ∧ n ≤ rst.length ∧ ∀ (u : Nat) (r : Option Addr × Nat × List Int), u < n → rst[u]? = some r → r.2.2.length ≤ 1024) (fun _ i _ => rst.length - (intOf i).toNat)
      case atStart => exact ⟨by trivial, 0, rfl, Nat.zero_le _, fun u r h => absurd h (Nat.not_lt_zero _)⟩
      case round =>
        obtain ⟨hw, n, rfl, hn, hall⟩ := hrel
        have hw := hw.symm
        subst hw
        have HA := hid hall
        clear hall
        by_cases hlt : n < rst.length
        · obtain ⟨r, hr⟩ := get_of_lt hlt
          obtain ⟨b, off, ha, hc⟩ := AA.out.fRst n r hr
          have HRR := hid hr
          clear hr
          have hni : (n : Int) < (rst.length : Int) := by omega
          by_cases hl : r.2.2.length ≤ 1024
          · go_wp2
            go_roundw
            case rel => exact ⟨by trivial, n + 1, by go_num, by omega, fun u r' h e => by
              rcases Nat.lt_succ_iff_lt_or_eq.1 h with h | h
              · exact HA.out u r' h e
              · subst h
                have := HRR.out
                rw [this] at e
                simp only [Option.some.injEq] at e
                subst e
                exact hl⟩
            case measure => simp [intOf]; omega
          · have hl' : (1024 : Int) < (r.2.2.length : Int) := by omega
            go_wp2
            go_ret
            exact ⟨rfl, Below.refl _ _⟩
        · go_wp2
          go_meet
          case rel => exact ⟨by trivial, fun u r h => HA.out u r (by have := (List.getElem?_eq_some_iff.1 h).1; omega) h⟩
  case rest =>
  obtain ⟨hw, hlen⟩ := hcut
  have hw := hw.symm
  subst hw
  have HLEN := hid hlen
  clear hlen
  have hml := fun w => make_lines ids.length h0 w
  go_upto_block 2 with fail
  clear hml
  go_cut [15, 16, 17] from 65 to 106 (fun _ _ _ wx => Below w.heap.size w wx ∧ wx.heap.size = w.heap.size + 1 ∧ ∃ ls : List (Int × Int), ls.length = ids.length + 1 ∧ LinesAt wx w.heap.size ls)
  case first =>
    as_aux_lemma =>
      go_wp2_with fail
      go_loopw [15, 16, 17] (fun x y _ wr => ∃ (j : Nat) (ln : Int), x = .int .i64 ln ∧ y = .int .i64 j ∧ j ≤ ids.length + 1 ∧ LnRel w wr ids.length j ln) (fun _ y _ _ => ids.length + 1 - (intOf y).toNat)
      case atStart => exact ⟨0, 0, rfl, rfl, Nat.zero_le _, LnRel.start w ids.length⟩
      case round =>
        obtain ⟨j, ln, rfl, rfl, hj, hR⟩ := hrel
        have RR := hid hR
        have g0 := hR.ln0
        have g1 := hR.ln1
        have IDM : Hid (∀ z : Int, 0 ≤ z → 0 ≤ z % 3 ∧ z % 3 < 3) := fun z _ => ⟨by omega, by omega⟩
        clear hR
        have c76 : Yba.prog.cellsOf 76 = 4 := by kernel_rfl
        by_cases hlt : j < ids.length + 1
        · have hltI : (j : Int) < (ids.length : Int) + 1 := by omega
          obtain ⟨cs, ls', _, hrow, hcl, _⟩ := RR.out.more
          have fz : ∀ o, wr.frozen? ⟨w.heap.size, o, none⟩ = false := fun o => hrow.frozen o
          obtain ⟨v0, e0⟩ := get_of_lt (show j * 4 < cs.length by omega)
          obtain ⟨v1, e1⟩ := get_of_lt (show j * 4 + 1 < cs.length by omega)
          obtain ⟨v2, e2⟩ := get_of_lt (show j * 4 + 2 < cs.length by omega)
          obtain ⟨v3, e3⟩ := get_of_lt (show j * 4 + 3 < cs.length by omega)
          have q0 : wr.cell? ⟨w.heap.size, j * 4, none⟩ = some v0 := by rw [hrow.cell]; exact e0
          have q1 : wr.cell? ⟨w.heap.size, j * 4 + 1, none⟩ = some v1 := by rw [hrow.cell]; exact e1
          have q2 : wr.cell? ⟨w.heap.size, j * 4 + 2, none⟩ = some v2 := by rw [hrow.cell]; exact e2
          have q3 : wr.cell? ⟨w.heap.size, j * 4 + 3, none⟩ = some v3 := by rw [hrow.cell]; exact e3
          clear hrow hcl e0 e1 e2 e3
          by_cases hj0 : j = 0
          · obtain rfl : ln = 0 := by omega
            have hjn : ¬ (0 : Int) < (j : Int) := by omega
            have HJ0 := hid hj0
            clear g1 hj0
            by_cases hi : j < ids.length
            · obtain ⟨z, hz⟩ := get_of_lt hi
              obtain ⟨b0, o0, ha0, hc0, z0, z1⟩ := (AA.out.below RR.out.b).fIds j z hz
              have hii : (j : Int) < (ids.length : Int) := by omega
              have mz := IDM.out z z0
              clear hz
              go_wp2
              go_roundw
              case rel => exact ⟨j + 1, 0, by go_num, by go_num, by omega, RR.out.next hlt (by omega) (by omega) (by omega) (by omega) _⟩
              case measure => simp [intOf]; omega
            · have hii : ¬ (j : Int) < (ids.length : Int) := by omega
              go_wp2
              go_roundw
              case rel => exact ⟨j + 1, 0, by go_num, by go_num, by omega, RR.out.next hlt (by omega) (by omega) (by omega) (by omega) _⟩
              case measure => simp [intOf]; omega
          · have hjp : (0 : Int) < (j : Int) := by omega
            have g2 : ln + 2 ≤ 2 * (j : Int) := by omega
            clear g1
            have y1 : IntKind.i64.wrap ((j : Int) - 1) = (j : Int) - 1 := wrap64s _ (by omega) (by omega)
            have y2 : (1 : Int) ≤ (j : Int) := by omega
            have y3 : ((j : Int) - 1).toNat = j - 1 := by omega
            have y4 : IntKind.i64.wrap (ln + 1) = ln + 1 := wrap64s _ (by omega) (by omega)
            have y5 : IntKind.i64.wrap (ln + 1 + 1) = ln + 1 + 1 := wrap64s _ (by omega) (by omega)
            by_cases hgl : j - 1 < gaps.length
            · have hgi : (j : Int) - 1 < (gaps.length : Int) := by omega
              have hgd : decide ((j : Int) - 1 < (gaps.length : Int)) = true := decide_eq_true hgi
              obtain ⟨z, hz⟩ := get_of_lt hgl
              obtain ⟨b1, o1, ha1, hc1, z0, z1⟩ := (AA.out.below RR.out.b).fGaps (j - 1) z hz
              clear hz
              by_cases hgz : z % 4 = 0
              · have hgb : (z % 4 == 0) = true := by simpa using hgz
                have HGZ := hid hgz
                clear hgz
                by_cases hi : j < ids.length
                · obtain ⟨z', hz⟩ := get_of_lt hi
                  obtain ⟨b0, o0, ha0, hc0, z0', z1'⟩ := (AA.out.below RR.out.b).fIds j z' hz
                  have hii : (j : Int) < (ids.length : Int) := by omega
                  have mz := IDM.out z' z0'
                  clear hz
                  go_wp2
                  go_roundw
                  case rel => exact ⟨j + 1, (ln + 1 + 1), by go_num, by go_num, by omega, RR.out.next hlt (by omega) (by omega) (by omega) (by omega) _⟩
                  case measure => simp [intOf]; omega
                · have hii : ¬ (j : Int) < (ids.length : Int) := by omega
                  go_wp2
                  go_roundw
                  case rel => exact ⟨j + 1, (ln + 1 + 1), by go_num, by go_num, by omega, RR.out.next hlt (by omega) (by omega) (by omega) (by omega) _⟩
                  case measure => simp [intOf]; omega
              · have hgb : (z % 4 == 0) = false := by simpa using hgz
                have HGZ := hid hgz
                clear hgz
                by_cases hi : j < ids.length
                · obtain ⟨z', hz⟩ := get_of_lt hi
                  obtain ⟨b0, o0, ha0, hc0, z0', z1'⟩ := (AA.out.below RR.out.b).fIds j z' hz
                  have hii : (j : Int) < (ids.length : Int) := by omega
                  have mz := IDM.out z' z0'
                  clear hz
                  go_wp2
                  go_roundw
                  case rel => exact ⟨j + 1, (ln + 1), by go_num, by go_num, by omega, RR.out.next hlt (by omega) (by omega) (by omega) (by omega) _⟩
                  case measure => simp [intOf]; omega
                · have hii : ¬ (j : Int) < (ids.length : Int) := by omega
                  go_wp2
                  go_roundw
                  case rel => exact ⟨j + 1, (ln + 1), by go_num, by go_num, by omega, RR.out.next hlt (by omega) (by omega) (by omega) (by omega) _⟩
                  case measure => simp [intOf]; omega
            · have hgi : ¬ (j : Int) - 1 < (gaps.length : Int) := by omega
              have hgd : decide ((j : Int) - 1 < (gaps.length : Int)) = false := decide_eq_false hgi
              by_cases hi : j < ids.length
              · obtain ⟨z, hz⟩ := get_of_lt hi
                obtain ⟨b0, o0, ha0, hc0, z0, z1⟩ := (AA.out.below RR.out.b).fIds j z hz
                have hii : (j : Int) < (ids.length : Int) := by omega
                have mz := IDM.out z z0
                clear hz
                go_wp2
                go_roundw
                case rel => exact ⟨j + 1, (ln + 1), by go_num, by go_num, by omega, RR.out.next hlt (by omega) (by omega) (by omega) (by omega) _⟩
                case measure => simp [intOf]; omega
              · have hii : ¬ (j : Int) < (ids.length : Int) := by omega
                go_wp2
                go_roundw
                case rel => exact ⟨j + 1, (ln + 1), by go_num, by go_num, by omega, RR.out.next hlt (by omega) (by omega) (by omega) (by omega) _⟩
                case measure => simp [intOf]; omega
        · go_wp2
          go_meet
          case rel =>
            obtain ⟨cs, ls', hl, hrow, hcl, hLn⟩ := RR.out.more
            exact ⟨RR.out.b, RR.out.sz, ls', by omega, hLn.lines hrow (by omega)⟩
  case rest =>
  rename World => w1
  obtain ⟨hb1, hsz1, ls, hls, hL⟩ := hcut
  obtain ⟨k, hk⟩ : ∃ k : Nat, kraw % ((ids.length : Int) + 1) = (k : Int) := ⟨(kraw % ((ids.length : Int) + 1)).toNat, (Int.toNat_of_nonneg (Int.emod_nonneg _ (by omega))).symm⟩
  have hkl : k < ls.length := by have := Int.emod_lt_of_pos kraw (show (0 : Int) < (ids.length : Int) + 1 by omega); omega
  obtain ⟨l0, hl0⟩ := get_of_lt hkl
  have cl := hL.id k l0 hl0
  have L0 := hid (hL.bound.2 k l0 hl0)
  have ID0 := hid (idAt_some hl0)
  have B1 := hid hb1
  have SZ1 := hid hsz1
  have HL := hid hL
  have HLS := hid hls
  have hki : (k : Int) < (ids.length : Int) + 1 := by omega
  have c76 : Yba.prog.cellsOf 76 = 4 := by kernel_rfl
  clear hb1 hsz1 hL hl0 hls
  go_upto_region 25 with fail
  go_cut [18, 19, 20] from 107 to 117 (fun x y z wx => x = .int .i64 k ∧ y = .int .u32 l0.2 ∧ z = .int .i64 rst.length ∧ wx = w1)
  case first =>
    go_wp2
    go_meet
    case rel => exact ⟨rfl, rfl, rfl, rfl⟩
  case rest =>
  obtain ⟨rfl, rfl, rfl, hw⟩ := hcut
  have hw := hw.symm
  subst hw
  clear cl hk
  have hmr := fun w => make_rs rst.length h1 w
  go_upto_block 4 with fail
  clear hmr
  go_cut [22, 23, 25] from 120 to 155 (fun _ _ _ wx => Below w1.heap.size w1 wx ∧ ∃ (rs : List Rw) (vals : List Value), rs.length = rst.length ∧ RsAt wx w1.heap.size l0.2 rst.length rs vals)
  case first =>
    as_aux_lemma =>
      go_wp2_with fail
      go_loopw [22, 23, 25] (fun x _ _ wr => ∃ u : Nat, x = .int .i64 u ∧ u ≤ rst.length ∧ RsRel w1 wr l0.2 rst.length u) (fun x _ _ _ => rst.length - (intOf x).toNat)
      case atStart => exact ⟨0, rfl, Nat.zero_le _, RsRel.start w1 l0.2 rst.length⟩
      case round =>
        obtain ⟨u, rfl, hu, hR⟩ := hrel
        have RR := hid hR
        clear hR
        by_cases hlt : u < rst.length
        · have hui : (u : Int) < (rst.length : Int) := by omega
          obtain ⟨⟨ra, rc, rr⟩, hr⟩ := get_of_lt hlt
          have WB : Hid (Below w.heap.size w wr) := B1.out.trans (RR.out.b.mono (by have := SZ1.out; omega))
          obtain ⟨b, off, ha, hc⟩ := (AA.out.below WB.out).fRst u _ hr
          subst ha
          have hrl : rr.length ≤ 1024 := HLEN.out u _ hr
          simp only at hc
          have HRR := hid hr
          have HC := hid hc
          clear hr
          have hmk := fun w => make_row rr.length hrl w
          obtain ⟨i0, hi0, hz0, hz1, hz2⟩ := info_parts info26
          have OW := hid (owns_made wr rr.length hrl)
          go_wp2_with (at_builtin; refine wpList_append_lies _ rfl _ _ 23 rfl wr.heap.size 26 i0 (.int .u32 0) 1 4 Yba.underlying23 hi0 hz0 hz1 hz2 rfl (by decide) _ 0 [] rfl (OW.out.alloc _) ⟨wr.heap.size + 1, 0, none⟩ 1 1 [.int .u32 l0.2] rfl rfl ?c1 ?c2 (by decide) ?c3 ?c4 ?c5 (wr.heap.size + 1 + 1) ?c6 ?_)
          case c1 =>
            intro j u hj
            match j, hj with
            | 0, hj => simp at hj; subst hj; simp [Addr.add]
          case c2 => intro u hu; simp at hu; subst hu; rfl
          case c3 => unfold maxLen; omega
          case c4 => omega
          case c5 => simp only [World.size_alloc]; omega
          case c6 => simp only [World.size_alloc]
          intro g cap wq hown hgrow hat hlt'
          have HB : Hid (Below wr.heap.size wr wq) := ((((Below.refl _ wr).alloc (Nat.le_refl _) _).alloc (by simp only [World.size_alloc]; omega) _).grown hgrow (by simp only [World.size_alloc]; omega) (fun k h => by simp only [Value.ownBlock, Option.some.injEq] at h; omega))
          have HO := hid hown
          have hc := cell_below HB.out HC.out
          clear hown hgrow hat hlt' hmk OW
          go_wp2_with fail
          clear hc
          go_loopw [23, 25, 141] (fun v _ i wp => ∃ (n g cap : Nat), v = .slice (some ⟨g, 0, none⟩) (n + 1) cap ∧ i = .int .i64 n ∧ n ≤ rr.length ∧ wp.ownsRow wr.heap.size 26 1 v (n + 1) (u32V (modRow l0.2 rr n)) ∧ Below wr.heap.size wr wp) (fun _ _ i _ => rr.length - (intOf i).toNat)
          case atStart => exact ⟨0, g, cap, rfl, rfl, Nat.zero_le _, HO.out, HB.out⟩
          case round =>
            rename World => wp
            obtain ⟨n, g', cap', rfl, rfl, hn, hown, hb⟩ := hrel
            have HO' := hid hown
            have HB' := hid hb
            clear hown hb HO HB
            have hgg := (owns_cells HO'.out (by omega))
            have hbp := HB'.out.size
            by_cases hnl : n < rr.length
            · have hni : (n : Int) < (rr.length : Int) := by omega
              obtain ⟨z, hz⟩ := get_of_lt hnl
              obtain ⟨b2, o2, ha2, hc2, z0, z1⟩ := (AA.out.below (WB.out.trans (HB'.out.mono (by have := WB.out.size; omega)))).fRow u _ HRR.out n z hz
              simp only at ha2
              subst ha2
              have hz3 : 0 ≤ z % 3 ∧ z % 3 < 3 := ⟨by omega, by omega⟩
              have HZ := hid hz
              have hg' : wr.heap.size ≤ g' := by
                obtain ⟨g2, c2, e, h, _⟩ := hgg
                simp only [Value.slice.injEq, Option.some.injEq, Addr.mk.injEq] at e
                omega
              clear hz hgg
              go_wp2_with (at_builtin; refine wpList_append_lies _ rfl _ _ 23 rfl wr.heap.size 26 i0 (.int .u32 0) 1 4 Yba.underlying23 hi0 hz0 hz1 hz2 rfl (by decide) _ (n + 1) _ rfl (HO'.out.alloc _) ⟨wp.heap.size, 0, none⟩ 1 1 [.int .u32 (z % 3)] rfl rfl ?c1 ?c2 (by decide) ?c3 ?c4 ?c5 (wp.heap.size + 1) ?c6 ?_)
              case c1 =>
                intro j u hj
                match j, hj with
                | 0, hj => simp at hj; subst hj; simp [Addr.add]
              case c2 => intro u hu; simp at hu; subst hu; rfl
              case c3 => unfold maxLen; omega
              case c4 => omega
              case c5 => simp only [World.size_alloc]; omega
              case c6 => simp only [World.size_alloc]
              intro g2 cap2 w8 hown hgrow hat hlt'
              have HB2 : Hid (Below wr.heap.size wr w8) := ((HB'.out.alloc hbp _).grown hgrow (by simp only [World.size_alloc]; omega) (fun k h => by simp only [Value.ownBlock, Option.some.injEq] at h; omega))
              have HO2 := hid hown
              clear hown hgrow hat hlt'
              go_wp2
              go_roundw
              case rel =>
                exact ⟨n + 1, g2, cap2, rfl, by go_num, by omega, by
                  have h := HO2.out
                  rw [take_mod _ HZ.out]
                  exact h, HB2.out⟩
              case measure => simp [intOf]; omega
            · have hnn : n = rr.length := by omega
              obtain ⟨rs, vals, hrs, hRs⟩ := RR.out.more
              have rowq := hRs.row.below HB'.out hRs.row.lt
              obtain ⟨v0, e0⟩ := get_of_lt (show u < vals.length by rw [hRs.len]; exact hlt)
              have q0 : wp.cell? ⟨w1.heap.size, u, none⟩ = some v0 := by rw [rowq.cell]; exact e0
              have fz : wp.frozen? ⟨w1.heap.size, u, none⟩ = false := rowq.frozen u
              have NN := hid hnn
              clear rowq e0 hRs hrs hgg hnn
              go_wp2
              go_roundw
              case rel =>
                exact ⟨u + 1, by go_num, by omega, RR.out.next hlt HB'.out (r := modRow l0.2 rr n) (by
                  have h := HO'.out
                  have e := NN.out
                  rw [show (modRow l0.2 rr n).length = n + 1 by simp [modRow]; omega]
                  exact h) (by have e := NN.out; simp [modRow]; omega) (fun y hy => by
                  have := L0.out
                  rcases List.mem_cons.1 hy with h | h
                  · subst h; exact ⟨by omega, by omega⟩
                  · obtain ⟨q, _, rfl⟩ := List.mem_map.1 h
                    exact ⟨by omega, by omega⟩) rfl⟩
              case measure => simp [intOf]; omega
        · go_wp2
          go_meet
          case rel =>
            obtain ⟨rs, vals, hrs, hRs⟩ := RR.out.more
            exact ⟨RR.out.b, rs, vals, by omega, hRs⟩
  case rest =>
  rename World => w2
  obtain ⟨hb2, rs, vals, hrs, hR⟩ := hcut
  have B2 := hid hb2
  have HR := hid hR
  have HRS := hid hrs
  have KS := hid (sort_any w2 w1.heap.size l0.2 rst.length rs vals hR hrs h1 rst.length)
  have hlt2 : w1.heap.size < w2.heap.size := hR.row.lt
  clear hb2 hR hrs
  go_upto_region 38 with fail
  go_cut [26] from 156 to 157 (fun _ wx => Below w1.heap.size w2 wx ∧ ∃ rs' : List Rw, rs'.length = rst.length ∧ Rests wx w1.heap.size l0.2 rs')
  case first =>
    go_wp2_with (go_at_call 7; refine KS.out.mono ?_; rintro e w' ⟨rfl, h2, rs', h3, h4⟩)
    go_meet
    case rel => exact ⟨h2, rs', h3, h4⟩
  case rest => as_aux_lemma =>
  rename World => w3
  obtain ⟨hb3, rs', hrs', hR'⟩ := hcut
  have B3 := hid hb3
  have HR3 := hid hR'
  have HRS3 := hid hrs'
  have hlt3 : w1.heap.size < w3.heap.size := by have := hb3.size; omega
  clear hb3 hrs' hR' KS HR HRS hlt2
  have hmi := fun w => make_ints rst.length (by omega) w
  go_upto_block 8 with fail
  go_cut [27] from 160 to 168 (fun _ wx => Below w3.heap.size w3 wx ∧ wx.heap.size = w3.heap.size + 1 ∧ ∃ xs : List Value, RowAt wx w3.heap.size 3 xs ∧ ∀ i, i < rst.length → xs[i]? = some (.int .i64 i))
  case first =>
    clear hmi
    as_aux_lemma =>
      go_wp2_with fail
      go_loopw [27] (fun x wr => ∃ (j : Nat) (xs : List Value), x = .int .i64 j ∧ j ≤ rst.length ∧ Below w3.heap.size w3 wr ∧ wr.heap.size = w3.heap.size + 1 ∧ RowAt wr w3.heap.size 3 xs ∧ xs.length = rst.length ∧ ∀ i, i < j → xs[i]? = some (.int .i64 i)) (fun x _ => rst.length - (intOf x).toNat)
      case atStart => exact ⟨0, _, rfl, Nat.zero_le _, (Below.refl _ w3).alloc (Nat.le_refl _) _, by simp, RowAt.new w3 3 _, by simp, fun i h => absurd h (Nat.not_lt_zero _)⟩
      case round =>
        obtain ⟨j, xs, rfl, hj, hb, hsz, hrow, hlx, hall⟩ := hrel
        have HA := hid hall
        have HB := hid hb
        have HR := hid hrow
        have HS := hid hsz
        clear hall hb hrow hsz
        by_cases hlt : j < rst.length
        · have hji : (j : Int) < (rst.length : Int) := by omega
          obtain ⟨v0, e0⟩ := get_of_lt (show j < xs.length by omega)
          have q0 : wr.cell? ⟨w3.heap.size, j, none⟩ = some v0 := by rw [HR.out.cell]; exact e0
          have fz : wr.frozen? ⟨w3.heap.size, j, none⟩ = false := HR.out.frozen j
          clear e0
          go_wp2
          go_roundw
          case rel => exact ⟨j + 1, xs.set j (.int .i64 j), by go_num, by omega, HB.out.setCell (Nat.le_refl _) _, by rw [size_set]; exact HS.out, HR.out.set j _, by simpa using hlx, fun i hi => by
            by_cases h : i = j
            · subst h; rw [List.getElem?_set_self (by omega)]
            · rw [List.getElem?_set_ne (by omega)]; exact HA.out i (by omega)⟩
          case measure => simp [intOf]; omega
        · go_wp2
          go_meet
          case rel => exact ⟨HB.out, HS.out, xs, HR.out, fun i hi => HA.out i (by omega)⟩
  case rest =>
  rename World => w4
  obtain ⟨hb4, hsz4, xs, hI, hX⟩ := hcut
  have B4 := hid hb4
  have SZ4 := hid hsz4
  have HI := hid hI
  have HX := hid hX
  clear hb4 hsz4 hI hX
  have hmn := fun w => make_nodes rst.length h1 w
  go_upto_block 10 with fail
  clear hmn
  go_cut [30, 31] from 177 to 206 (fun _ _ wx => Below w4.heap.size w4 wx ∧ wx.heap.size = w4.heap.size + 3 ∧ RowAt wx w4.heap.size 3 (List.replicate rst.length (Value.int .i64 0)) ∧ RowAt wx (w4.heap.size + 2) 82 [.int .i64 rst.length, .slice (some ⟨w4.heap.size + 1, 0, none⟩) (2 * rst.length) (2 * rst.length)] ∧ ∃ nodes : List Int, nodes.length = 2 * rst.length ∧ RowAt wx (w4.heap.size + 1) 3 (intsV nodes) ∧ ∀ u, u < rst.length → ent nodes rst.length u ≤ NV)
  case first =>
    clear hmi
    as_aux_lemma =>
      go_wp2_with fail
      go_loopw [30, 31] (fun x _ wr => ∃ (j : Nat) (nodes : List Int), x = .int .i64 j ∧ j ≤ rst.length ∧ Below w4.heap.size w4 wr ∧ wr.heap.size = w4.heap.size + 3 ∧ RowAt wr w4.heap.size 3 (List.replicate rst.length (Value.int .i64 0)) ∧ RowAt wr (w4.heap.size + 2) 82 [.int .i64 rst.length, .slice (some ⟨w4.heap.size + 1, 0, none⟩) (2 * rst.length) (2 * rst.length)] ∧ nodes.length = 2 * rst.length ∧ RowAt wr (w4.heap.size + 1) 3 (intsV nodes) ∧ ∀ u, u < j → ent nodes rst.length u ≤ NV) (fun x _ _ => rst.length - (intOf x).toNat)
      case atStart =>
        have r1 := ((RowAt.new w4 3 (List.replicate rst.length (Value.int .i64 0))).alloc (.cells (List.replicate (2 * rst.length) (Value.int .i64 0)).toArray 3)).alloc (.cells #[.int .i64 rst.length, .slice (some ⟨w4.heap.size + 1, 0, none⟩) (2 * rst.length) (2 * rst.length)] 82)
        have r2 := (new_at (w4.alloc (.cells (List.replicate rst.length (Value.int .i64 0)).toArray 3)) (w4.heap.size + 1) 3 (List.replicate (2 * rst.length) (Value.int .i64 0)) (by simp only [World.size_alloc])).alloc (.cells #[.int .i64 rst.length, .slice (some ⟨w4.heap.size + 1, 0, none⟩) (2 * rst.length) (2 * rst.length)] 82)
        have r3 := new_at ((w4.alloc (.cells (List.replicate rst.length (Value.int .i64 0)).toArray 3)).alloc (.cells (List.replicate (2 * rst.length) (Value.int .i64 0)).toArray 3)) (w4.heap.size + 2) 82 [.int .i64 rst.length, .slice (some ⟨w4.heap.size + 1, 0, none⟩) (2 * rst.length) (2 * rst.length)] (by simp only [World.size_alloc])
        exact ⟨0, List.replicate (2 * rst.length) 0, rfl, Nat.zero_le _, (((Below.refl _ w4).alloc (Nat.le_refl _) _).alloc (by simp only [World.size_alloc]; omega) _).alloc (by simp only [World.size_alloc]; omega) _, by simp only [World.size_alloc], r1, r3, by simp, by simpa [intsV] using r2, fun u h => absurd h (Nat.not_lt_zero _)⟩
      case round =>
        obtain ⟨j, nodes, rfl, hj, hb, hsz, hF, hT, hnl, hN, hall⟩ := hrel
        have HA := hid hall
        have HB := hid hb
        have HS := hid hsz
        have HFF := hid hF
        have HTT := hid hT
        have HNN := hid hN
        have HNL := hid hnl
        clear hall hb hsz hF hT hN
        by_cases hlt : j < rst.length
        · have hji : (j : Int) < (rst.length : Int) := by omega
          have t1 : wr.cell? ⟨w4.heap.size + 1 + 1, 1, none⟩ = some (.slice (some ⟨w4.heap.size + 1, 0, none⟩) (2 * rst.length) (2 * rst.length)) := by rw [HTT.out.cell]; rfl
          have q0 : wr.cell? ⟨w4.heap.size + 1, rst.length + j, none⟩ = some (.int .i64 (nodeAt nodes (rst.length + j))) := by rw [HNN.out.cell]; exact intsV_get (by omega)
          have fz : wr.frozen? ⟨w4.heap.size + 1, rst.length + j, none⟩ = false := HNN.out.frozen _
          have y1 : IntKind.i64.wrap ((rst.length : Int) + (j : Int)) = (rst.length : Int) + (j : Int) := wrap64s _ (by omega) (by omega)
          have y2 : ((rst.length : Int) + (j : Int)).toNat = rst.length + j := by omega
          have y3 : (0 : Int) ≤ (rst.length : Int) + (j : Int) := by omega
          have y4 : (rst.length : Int) + (j : Int) < 2 * (rst.length : Int) := by omega
          have NX : Hid (∀ x : Int, x ≤ NV → ∃ (j' : Nat) (nodes' : List Int), Value.int .i64 ((j : Int) + 1) = .int .i64 j' ∧ j' ≤ rst.length ∧ Below w4.heap.size w4 (wr.setCell ⟨w4.heap.size + 1, rst.length + j, none⟩ (.int .i64 x)) ∧ (wr.setCell ⟨w4.heap.size + 1, rst.length + j, none⟩ (.int .i64 x)).heap.size = w4.heap.size + 3 ∧ RowAt (wr.setCell ⟨w4.heap.size + 1, rst.length + j, none⟩ (.int .i64 x)) w4.heap.size 3 (List.replicate rst.length (Value.int .i64 0)) ∧ RowAt (wr.setCell ⟨w4.heap.size + 1, rst.length + j, none⟩ (.int .i64 x)) (w4.heap.size + 2) 82 [.int .i64 rst.length, .slice (some ⟨w4.heap.size + 1, 0, none⟩) (2 * rst.length) (2 * rst.length)] ∧ nodes'.length = 2 * rst.length ∧ RowAt (wr.setCell ⟨w4.heap.size + 1, rst.length + j, none⟩ (.int .i64 x)) (w4.heap.size + 1) 3 (intsV nodes') ∧ ∀ u, u < j' → ent nodes' rst.length u ≤ NV) := fun x hx => by
            refine ⟨j + 1, nodes.set (rst.length + j) x, by go_num, by omega, HB.out.setCell (by simp) _, by rw [size_set]; exact HS.out, HFF.out.other (by simp) _, HTT.out.other (by simp) _, by simpa using HNL.out, ?_, fun u hu => ?_⟩
            · have := HNN.out.set (rst.length + j) (.int .i64 x)
              unfold intsV at this ⊢
              rw [List.map_set]; exact this
            · unfold ent nodeAt
              by_cases h : u = j
              · subst h; rw [List.getD_eq_getElem?_getD, List.getElem?_set_self (by have := HNL.out; omega)]; exact hx
              · rw [List.getD_eq_getElem?_getD, List.getElem?_set_ne (by omega), ← List.getD_eq_getElem?_getD]
                exact HA.out u (by omega)
          clear hnl
          by_cases hel : j < ents.length
          · have hei : (j : Int) < (ents.length : Int) := by omega
            have hed : decide ((j : Int) < (ents.length : Int)) = true := decide_eq_true hei
            obtain ⟨z, hz⟩ := get_of_lt hel
            have WB : Hid (Below w.heap.size w wr) := (B1.out.trans ((B2.out.mono (by have := SZ1.out; omega)))).trans ((((B3.out.mono (by have := SZ1.out; omega))).trans (B4.out.mono (by have := SZ1.out; omega))).trans (HB.out.mono (by have := SZ1.out; have := SZ4.out; omega)))
            obtain ⟨b1, o1, ha1, hc1, z1⟩ := (AA.out.below WB.out).fEnts j z hz
            clear hz
            by_cases hz0 : 0 ≤ z
            · have hzd : decide ((0 : Int) ≤ z) = true := decide_eq_true hz0
              go_wp2
              go_roundw
              case rel => exact NX.out z (by show z ≤ 9223372036854775807; omega)
              case measure => simp [intOf]; omega
            · have hzd : decide ((0 : Int) ≤ z) = false := decide_eq_false hz0
              go_wp2
              go_roundw
              case rel => exact NX.out _ (Int.le_refl _)
              case measure => simp [intOf]; omega
          · have hei : ¬ (j : Int) < (ents.length : Int) := by omega
            have hed : decide ((j : Int) < (ents.length : Int)) = false := decide_eq_false hei
            go_wp2
            go_roundw
            case rel => exact NX.out _ (Int.le_refl _)
            case measure => simp [intOf]; omega
        · go_wp2
          go_meet
          case rel => exact ⟨HB.out, HS.out, HFF.out, HTT.out, nodes, HNL.out, HNN.out, fun u hu => HA.out u (by omega)⟩
  case rest => as_aux_lemma =>
  rename World => w5
  obtain ⟨hb5, hsz5, hF5, hT5, nodes, hn5, hN5, hle5⟩ := hcut
  have B5 := hid hb5
  have SZ5 := hid hsz5
  have HF5 := hid hF5
  have HT5 := hid hT5
  have HN5 := hid hN5
  have HE5 := hid hle5
  have HL5 := hid hn5
  clear hb5 hsz5 hF5 hT5 hn5 hN5 hle5
  go_upto_block 12 with fail
  go_cut [32] from 209 to 236 (fun _ wx => Below (w4.heap.size + 1) w5 wx ∧ wx.heap.size = w4.heap.size + 3 ∧ RowAt wx (w4.heap.size + 2) 82 [.int .i64 rst.length, .slice (some ⟨w4.heap.size + 1, 0, none⟩) (2 * rst.length) (2 * rst.length)] ∧ ∃ nodes : List Int, TreeOK nodes rst.length ∧ RowAt wx (w4.heap.size + 1) 3 (intsV nodes) ∧ ∀ u, u < rst.length → ent nodes rst.length u ≤ NV)
  case first =>
    clear hmi
    as_aux_lemma =>
      go_wp2_with fail
      go_loopw [32] (fun x wr => ∃ (i : Int) (nodes : List Int), x = .int .i64 i ∧ -1 ≤ i ∧ i < rst.length ∧ Below (w4.heap.size + 1) w5 wr ∧ wr.heap.size = w4.heap.size + 3 ∧ RowAt wr (w4.heap.size + 2) 82 [.int .i64 rst.length, .slice (some ⟨w4.heap.size + 1, 0, none⟩) (2 * rst.length) (2 * rst.length)] ∧ nodes.length = 2 * rst.length ∧ RowAt wr (w4.heap.size + 1) 3 (intsV nodes) ∧ (∀ u, u < rst.length → ent nodes rst.length u ≤ NV) ∧ ∀ m : Nat, i < m → 1 ≤ m → m < rst.length → nodeAt nodes m = min (nodeAt nodes (2 * m)) (nodeAt nodes (2 * m + 1))) (fun x _ => (intOf x).toNat)
      case atStart => exact ⟨(rst.length : Int) - 1, nodes, by go_num, by omega, by omega, Below.refl _ _, SZ5.out, HT5.out, HL5.out, HN5.out, HE5.out, fun m h1 _ h3 => by omega⟩
      case round =>
        obtain ⟨i, nodes, rfl, hi0, hi1, hb, hsz, hT, hnl, hN, hle, hall⟩ := hrel
        have HA := hid hall
        have HB := hid hb
        have HS := hid hsz
        have HTT := hid hT
        have HNN := hid hN
        have HNL := hid hnl
        have HLE := hid hle
        clear hall hb hsz hT hN hle HE5 HL5 HN5 HT5
        by_cases h1 : 1 ≤ i
        · obtain ⟨m, rfl⟩ : ∃ m : Nat, i = (m : Int) := ⟨i.toNat, by omega⟩
          have t1 : wr.cell? ⟨w4.heap.size + 1 + 1, 1, none⟩ = some (.slice (some ⟨w4.heap.size + 1, 0, none⟩) (2 * rst.length) (2 * rst.length)) := by rw [HTT.out.cell]; rfl
          have q0 : wr.cell? ⟨w4.heap.size + 1, 2 * m, none⟩ = some (.int .i64 (nodeAt nodes (2 * m))) := by rw [HNN.out.cell]; exact intsV_get (by omega)
          have q1 : wr.cell? ⟨w4.heap.size + 1, 2 * m + 1, none⟩ = some (.int .i64 (nodeAt nodes (2 * m + 1))) := by rw [HNN.out.cell]; exact intsV_get (by omega)
          have q2 : wr.cell? ⟨w4.heap.size + 1, m, none⟩ = some (.int .i64 (nodeAt nodes m)) := by rw [HNN.out.cell]; exact intsV_get (by omega)
          have fz : wr.frozen? ⟨w4.heap.size + 1, m, none⟩ = false := HNN.out.frozen _
          obtain ⟨x, hx⟩ : ∃ x, nodeAt nodes (2 * m) = x := ⟨_, rfl⟩
          obtain ⟨y, hy⟩ : ∃ y, nodeAt nodes (2 * m + 1) = y := ⟨_, rfl⟩
          rw [hx] at q0
          rw [hy] at q1
          have y1 : IntKind.i64.wrap (2 * (m : Int)) = 2 * (m : Int) := wrap64s _ (by omega) (by omega)
          have y2 : (2 * (m : Int)).toNat = 2 * m := by omega
          have y3 : (0 : Int) ≤ 2 * (m : Int) := by omega
          have y4 : 2 * (m : Int) < 2 * (rst.length : Int) := by omega
          have y5 : IntKind.i64.wrap (2 * (m : Int) + 1) = 2 * (m : Int) + 1 := wrap64s _ (by omega) (by omega)
          have y6 : (2 * (m : Int) + 1).toNat = 2 * m + 1 := by omega
          have y7 : (0 : Int) ≤ 2 * (m : Int) + 1 := by omega
          have y8 : 2 * (m : Int) + 1 < 2 * (rst.length : Int) := by omega
          have y9 : (m : Int) < 2 * (rst.length : Int) := by omega
          have HX := hid hx
          have HY := hid hy
          have HS5 : ∀ a v, (wr.drew.setCell a v).heap.size = w4.heap.size + 3 := fun a v => by rw [size_set]; exact HS.out
          clear hx hy hnl
          go_wp2_with fail
          go_region
          all_goals
            go_wp2
            go_roundw
            case rel =>
              refine ⟨(m : Int) - 1, nodes.set m (min x y), by go_num, by omega, by omega, (HB.out.drew).setCell (Nat.le_refl _) _, HS5 _ _, (RowAt.drew HTT.out).other (by simp) _, by simpa using HNL.out, ?_, fun u hu => ?_, fun p p1 p2 p3 => ?_⟩
              · have h := (RowAt.drew HNN.out).set m (.int .i64 (min x y))
                unfold intsV at h ⊢
                rw [List.map_set]
                first | exact h | (simp only [ite_min]; exact h)
              · have := HLE.out u hu
                unfold ent nodeAt at this ⊢
                rw [List.getD_eq_getElem?_getD, List.getElem?_set_ne (by omega), ← List.getD_eq_getElem?_getD]
                exact this
              · have g : ∀ q, q ≠ m → nodeAt (nodes.set m (min x y)) q = nodeAt nodes q := fun q hq => by
                  unfold nodeAt
                  rw [List.getD_eq_getElem?_getD, List.getElem?_set_ne (by omega), ← List.getD_eq_getElem?_getD]
                by_cases h : p = m
                · subst h
                  rw [g (2 * p) (by omega), g (2 * p + 1) (by omega), HX.out, HY.out]
                  unfold nodeAt
                  rw [List.getD_eq_getElem?_getD, List.getElem?_set_self (by have := HNL.out; omega)]
                  rfl
                · rw [g p h, g (2 * p) (by omega), g (2 * p + 1) (by omega)]
                  exact HA.out p (by omega) p2 p3
            case measure => simp [intOf]; omega
        · go_wp2
          go_meet
          case rel => exact ⟨HB.out, HS.out, HTT.out, nodes, ⟨HNL.out, fun m m1 m2 => HA.out m (by omega) m1 m2⟩, HNN.out, HLE.out⟩
  case rest =>
  rename World => w6
  obtain ⟨hb6, hsz6, hT6, nodes', hok6, hN6, hle6⟩ := hcut
  have B6 := hid hb6
  have SZ6 := hid hsz6
  have HT6 := hid hT6
  have HN6 := hid hN6
  have HE6 := hid hle6
  have HO6 := hid hok6
  clear hb6 hsz6 hT6 hok6 hN6 hle6 HN5 HE5 HL5 HT5
  go_upto_region 60 with fail
  have hrl : (rs'.map Rw.r).length = rst.length := by simp [HRS3.out]
  have B36 : Hid (Below w3.heap.size w3 w6) := B4.out.trans ((B5.out.mono (by have := SZ4.out; omega)).trans (B6.out.mono (by have := SZ4.out; omega)))
  have B16 : Hid (Below w1.heap.size w1 w6) := B2.out.trans (B3.out.trans (B36.out.mono (by omega)))
  have SC := hid (scene_lay w6 w.heap.size (ids.length + 1) w1.heap.size w3.heap.size w4.heap.size (w4.heap.size + 1) rst.length rs' l0.2 nodes' ls xs (by have := SZ1.out; have := SZ6.out; have := SZ4.out; refine ⟨?_, ?_, ?_, ?_, ?_⟩ <;> omega) HLS.out (HL.out.below B16.out (by have := SZ1.out; omega)) HRS3.out (HR3.out.below B36.out) h1 (HI.out.below (B5.out.trans (B6.out.mono (by omega))) (by have := SZ4.out; omega)) HX.out (HF5.out.below B6.out (by omega)) HT6.out HN6.out HO6.out)
  have KR : Hid (Calls Yba.prog 10 #[.pointer (some ⟨w6.heap.size + 1 + 1 + 1 + 1 + 1 + 1, 0, none⟩), .int .i64 k] (lay w6 w.heap.size (ids.length + 1) w1.heap.size w3.heap.size w4.heap.size (w4.heap.size + 1 + 1) rst.length) (RankDone (laySc w6.heap.size w.heap.size (ids.length + 1) w1.heap.size w3.heap.size w4.heap.size (w4.heap.size + 1) rst.length rs') (rs'.map Rw.r) nodes' ls k (lay w6 w.heap.size (ids.length + 1) w1.heap.size w3.heap.size w4.heap.size (w4.heap.size + 1 + 1) rst.length))) := rank_any (laySc w6.heap.size w.heap.size (ids.length + 1) w1.heap.size w3.heap.size w4.heap.size (w4.heap.size + 1) rst.length rs') (rs'.map Rw.r) nodes' ls k (lay w6 w.heap.size (ids.length + 1) w1.heap.size w3.heap.size w4.heap.size (w4.heap.size + 1 + 1) rst.length) SC.out.1 SC.out.2 hkl HR3.out.up (fun u hu => by rw [hrl] at hu ⊢; exact HE6.out u hu) (ok0_of HR3.out hkl ID0.out)
  go_cut [36] from 258 to 260 (fun _ wx => RankDone (laySc w6.heap.size w.heap.size (ids.length + 1) w1.heap.size w3.heap.size w4.heap.size (w4.heap.size + 1) rst.length rs') (rs'.map Rw.r) nodes' ls k (lay w6 w.heap.size (ids.length + 1) w1.heap.size w3.heap.size w4.heap.size (w4.heap.size + 1 + 1) rst.length) (.returned (.tuple #[])) wx)
  case first =>
    go_wp2_with (go_at_call 10; refine KR.out.mono ?_; rintro e w' ⟨rfl, hd⟩)
    go_meet
    case rel => exact ⟨rfl, hd⟩
  case rest => as_aux_lemma =>
  rename World => w8
  obtain ⟨_, hb8, v, L, hH, hheap, hlen, hgood⟩ := hcut
  obtain ⟨ad, cap, rfl, hcap, had⟩ := held_form hH
  obtain ⟨rows, hrows⟩ : ∃ rows, rs'.map Rw.r = rows := ⟨_, rfl⟩
  obtain ⟨s, hs⟩ : ∃ s, (laySc w6.heap.size w.heap.size (ids.length + 1) w1.heap.size w3.heap.size w4.heap.size (w4.heap.size + 1) rst.length rs') = s := ⟨_, rfl⟩
  have sK : s.gK = w6.heap.size + 1 + 1 + 1 + 1 + 1 + 1 := by rw [← hs]
  have sF : s.gFr = w6.heap.size + 1 + 1 + 1 + 1 + 1 := by rw [← hs]
  have sT : s.gT = w4.heap.size + 1 + 1 := by rw [← hs]
  have sN : s.gN = w4.heap.size + 1 := by rw [← hs]
  have sC : s.cN = 2 * rst.length := by rw [← hs]
  have sS : s.p.gS = w1.heap.size := by rw [← hs]
  have sL : s.gL = w.heap.size := by rw [← hs]
  have sW : Hid (Below w.heap.size w w8) := B1.out.trans ((B16.out.trans ((below_lay _ _ _ _ _ _ _ _).mono (by have := B16.out.size; omega))).mono (by have := SZ1.out; omega) |>.trans (hb8.mono (by have := SZ1.out; have := B16.out.size; simp only; omega)))
  have S8 : Hid (SceneAt w8 s rows nodes' ls) := by
    rw [← hs, ← hrows]; exact SC.out.1.below hb8
  have H8 : Hid (HeldAt w8 s (.slice ad L.length cap) L) := by rw [← hs]; exact hH
  have G8 : Hid (Good ls k rows (ent nodes' rst.length) L (fun _ => True)) := by rw [← hrows, ← hrl]; exact hgood
  have HP8 := hid hheap
  have RL8 : Hid (rows.length = rst.length) := by rw [← hrows]; exact hrl
  have HLEN8 := hid hlen
  have hcapi : (L.length : Int) ≤ (cap : Int) := by omega
  have k4 : w8.cell? ⟨w6.heap.size + 1 + 1 + 1 + 1 + 1 + 1, 4, none⟩ = some (.slice ad L.length cap) := by have := H8.out.1.cell 4; rw [sK] at this; exact this
  have k5 : w8.cell? ⟨w6.heap.size + 1 + 1 + 1 + 1 + 1 + 1, 5, none⟩ = some (.slice (some ⟨w6.heap.size + 1 + 1 + 1 + 1 + 1, 0, none⟩) 1 1) := by have := H8.out.1.cell 5; rw [sK, sF] at this; exact this
  have k6 : w8.cell? ⟨w6.heap.size + 1 + 1 + 1 + 1 + 1, 0, none⟩ = some (.int .i64 0) := by have := S8.out.fr; rw [sF] at this; exact this
  have gK8 : s.gK < w8.heap.size := H8.out.1.lt
  have T8 : Hid (RowAt w8 (w4.heap.size + 1 + 1) 82 [.int .i64 rst.length, .slice (some ⟨w4.heap.size + 1, 0, none⟩) (2 * rst.length) (2 * rst.length)]) := by
    have := S8.out.tree
    rw [S8.out.ok.1, RL8.out, sT, sN, sC] at this
    exact this
  have N8 : Hid (RowAt w8 (w4.heap.size + 1) 3 (intsV nodes')) := by have := S8.out.nd; rw [sN] at this; exact this
  clear hb8 hH hheap hlen hgood hs hrows KR SC B36 B16 HT6 HN6 HF5 HI HX HR3 HRS3 B2 B3 B4 B5 B6 hrl
  have hN8 : w4.heap.size + 1 < w8.heap.size := N8.out.lt
  go_upto_block 14 with fail
  clear k5 k6 hmi
  go_cut [37, 38, 39, 40] from 278 to 367 (fun _ _ _ _ wx => Below w8.heap.size w8 wx ∧ ∃ cov : List Int, RowAt wx w8.heap.size 3 (intsV cov) ∧ CovIs cov rst.length (cntTo L L.length))
  case first =>
    as_aux_lemma =>
      go_wp2_with fail
      go_loopw [37, 38, 39, 40] (fun x _ _ _ wr => ∃ (i : Nat) (cov : List Int), x = .int .i64 i ∧ i ≤ L.length ∧ Below w8.heap.size w8 wr ∧ RowAt wr w8.heap.size 3 (intsV cov) ∧ CovIs cov rst.length (cntTo L i)) (fun x _ _ _ _ => L.length - (intOf x).toNat)
      case atStart => exact ⟨0, List.replicate rst.length 0, rfl, Nat.zero_le _, (Below.refl _ w8).alloc (Nat.le_refl _) _, by simpa [intsV] using RowAt.new w8 3 (List.replicate rst.length (Value.int .i64 0)), CovIs.start _ _ (fun q => by simp [cntTo])⟩
      case round =>
        obtain ⟨i, cov, rfl, hi, hb, hC, hcov⟩ := hrel
        have HB := hid hb
        have HC := hid hC
        have HV := hid hcov
        have hgC : w8.heap.size < wr.heap.size := hC.lt
        have k4' : wr.cell? ⟨w6.heap.size + 1 + 1 + 1 + 1 + 1 + 1, 4, none⟩ = some (.slice ad L.length cap) := cell_below hb k4
        have K4 := hid k4
        have hLl := HLEN8.out
        clear hb hC hcov k4
        by_cases hlt : i < L.length
        · have hii : (i : Int) < (L.length : Int) := by omega
          obtain ⟨gg, hgg⟩ := had (by omega)
          subst hgg
          obtain ⟨y, hy⟩ : ∃ y, (spAt L i) = y := ⟨_, rfl⟩
          have hcell : ∀ o, o < 4 → wr.cell? ⟨gg, i * 4 + o, none⟩ = (spC y)[o]? := fun o ho => hy ▸ (held_cell (H8.out.below HB.out) hlt ho).1
          obtain ⟨x, yb, J, e1, e2, e3, g1, g2, g3, g4, g5⟩ := (G8.out.each y (by rw [← hy, spAt_pos L i hlt]; exact List.getElem_mem hlt)).say
          obtain ⟨ya, yk, y1, y2⟩ := y
          simp only at e1 e2 e3 g3 g4
          subst e1 e2 e3
          have cy0 : wr.cell? ⟨gg, i * 4, none⟩ = some (.int .i64 J) := hcell 0 (by omega)
          have cy1 : wr.cell? ⟨gg, i * 4 + 1, none⟩ = some (.int .i64 yk) := hcell 1 (by omega)
          have cy2 : wr.cell? ⟨gg, i * 4 + 2, none⟩ = some (.int .i64 x) := hcell 2 (by omega)
          have cy3 : wr.cell? ⟨gg, i * 4 + 3, none⟩ = some (.int .i64 yb) := hcell 3 (by omega)
          rw [RL8.out] at g2
          have HY := hid hy
          have G5 := hid g5
          have G3 := hid g3
          have G4 := hid g4
          clear hcell hy g3 g4 g5 had
          have c114 : Yba.prog.cellsOf 114 = 4 := by kernel_rfl
          have d1 : decide ((x : Int) < 0) = false := decide_eq_false (by omega)
          have d2 : decide ((rst.length : Int) < (yb : Int)) = false := decide_eq_false (by omega)
          have d3 : decide ((yb : Int) ≤ (x : Int)) = false := decide_eq_false (by omega)
          go_wp2_with fail
          clear cy0 cy1 cy2 cy3 k4' d1 d2 d3
          go_loopw [39, 40] (fun m uu wq => ∃ (u : Nat) (cov : List Int), m = .int .i64 (rmin (ent nodes' rst.length) x (u - x)) ∧ uu = .int .i64 u ∧ x ≤ u ∧ u ≤ yb ∧ Below w8.heap.size w8 wq ∧ RowAt wq w8.heap.size 3 (intsV cov) ∧ CovIs cov rst.length (fun q => cntTo L i q + if x ≤ q ∧ q < u then 1 else 0) ∧ RowAt wq wr.heap.size 114 [.int .i64 J, .int .i64 yk, .int .i64 x, .int .i64 yb]) (fun _ uu _ => yb - (intOf uu).toNat)
          case atStart => exact ⟨x, cov, by rw [Nat.sub_self]; rfl, rfl, Nat.le_refl _, by omega, HB.out.alloc (by omega) _, HC.out.alloc _, HV.out.congr (fun q _ => by rw [if_neg (by omega), Nat.add_zero]), RowAt.new wr 114 _⟩
          case round =>
            rename World => wq
            obtain ⟨u, cov', hm, rfl, hxu, huy, hb, hC, hcov, hbox⟩ := hrel
            obtain ⟨mm, hmm⟩ : ∃ mm, rmin (ent nodes' rst.length) x (u - x) = mm := ⟨_, rfl⟩
            rw [hmm] at hm
            subst hm
            have HMM := hid hmm
            have HBq := hid hb
            have HCq := hid hC
            have HVq := hid hcov
            have HXq := hid hbox
            have b0 : wq.cell? ⟨wr.heap.size, 0, none⟩ = some (.int .i64 J) := by rw [hbox.cell]; rfl
            have b1 : wq.cell? ⟨wr.heap.size, 1, none⟩ = some (.int .i64 yk) := by rw [hbox.cell]; rfl
            have b2 : wq.cell? ⟨wr.heap.size, 2, none⟩ = some (.int .i64 x) := by rw [hbox.cell]; rfl
            have b3 : wq.cell? ⟨wr.heap.size, 3, none⟩ = some (.int .i64 yb) := by rw [hbox.cell]; rfl
            have hgBq : wr.heap.size < wq.heap.size := hbox.lt
            clear hmm hb hC hcov hbox
            by_cases hul : u < yb
            · have hui : (u : Int) < (yb : Int) := by omega
              have hut : (u : Int) < (rst.length : Int) := by omega
              have Sq := S8.out.whole (Nat.le_of_lt gK8) HBq.out
              have hru : u < rows.length := by rw [RL8.out]; omega
              have t1 : wq.cell? ⟨w4.heap.size + 1 + 1, 1, none⟩ = some (.slice (some ⟨w4.heap.size + 1, 0, none⟩) (2 * rst.length) (2 * rst.length)) := by rw [(T8.out.below HBq.out T8.out.lt).cell]; rfl
              obtain ⟨eu, heu⟩ : ∃ eu, ent nodes' rst.length u = eu := ⟨_, rfl⟩
              have n1 : wq.cell? ⟨w4.heap.size + 1, rst.length + u, none⟩ = some (.int .i64 eu) := by
                rw [(N8.out.below HBq.out hN8).cell, intsV_get (by have := S8.out.ok.1; have := RL8.out; omega), ← heu]; rfl
              have r1 := Sq.plan.row u _ (rowAt_some hru)
              rw [sS] at r1
              have K11 : Hid (∀ q, Calls Yba.prog 11 #[.slice (some ⟨s.p.g u, 0, none⟩) (rowAt rows u).length (s.p.c u), .slice (some ⟨w.heap.size, 0, none⟩) (ids.length + 1) (ids.length + 1), .int .i64 k] (wq.drewN q) fun e w' => e = .returned (.int .i64 J) ∧ ∃ m, w' = (wq.drewN q).drewN m) := fun q => by
                have Lq := Sq.lines
                rw [sL] at Lq
                have hD : Below wq.heap.size wq (wq.drewN q) := below_drewN (Below.refl _ _) q
                have h := ahead_any (s.p.g u) (s.p.c u) w.heap.size (ids.length + 1) k (rowAt rows u) ls (wq.drewN q) (fun i v e => cell_below hD (Sq.plan.id u _ (rowAt_some hru) i v e)) (Lq.below hD (by have := sW.out.size; have := HBq.out.size; have := SZ1.out; omega)) hkl
                rw [HLS.out] at h
                refine h.mono ?_
                rintro e w' ⟨J', rfl, hJ', q', rfl⟩
                obtain rfl : J' = J := hJ'.unique (G5.out u hxu hul).2
                exact ⟨rfl, q', rfl⟩
              obtain ⟨cu, hcu⟩ : ∃ cu, nodeAt cov' u = cu := ⟨_, rfl⟩
              have v1 : wq.cell? ⟨w8.heap.size, u, none⟩ = some (.int .i64 cu) := by rw [HCq.out.cell, intsV_get (by rw [HVq.out.1]; omega), hcu]
              have v2 : wq.frozen? ⟨w8.heap.size, u, none⟩ = false := HCq.out.frozen u
              have hcu1 : 0 ≤ cu ∧ cu ≤ 2000 := by
                have h : nodeAt cov' u = ((cntTo L i u + if x ≤ u ∧ u < u then 1 else 0 : Nat) : Int) := HVq.out.2 u (by omega)
                rw [if_neg (by omega), Nat.add_zero] at h
                have h2 : cntTo L i u ≤ L.length := Nat.le_trans List.countP_le_length (by rw [List.length_take]; omega)
                have h3 := HLEN8.out
                rw [hcu] at h
                omega
              have y1 : IntKind.i64.wrap ((rst.length : Int) + (u : Int)) = (rst.length : Int) + (u : Int) := wrap64s _ (by omega) (by omega)
              have y2 : ((rst.length : Int) + (u : Int)).toNat = rst.length + u := by omega
              have y3 : (0 : Int) ≤ (rst.length : Int) + (u : Int) := by omega
              have y4 : (rst.length : Int) + (u : Int) < 2 * (rst.length : Int) := by omega
              have y5 : IntKind.i64.wrap (cu + 1) = cu + 1 := wrap64s _ (by omega) (by omega)
              have HCU := hid hcu
              have HEU := hid heu
              obtain ⟨gr, hgr⟩ : ∃ gr, s.p.g u = gr := ⟨_, rfl⟩
              obtain ⟨cr, hcr⟩ : ∃ cr, s.p.c u = cr := ⟨_, rfl⟩
              obtain ⟨lr, hlr⟩ : ∃ lr, (rowAt rows u).length = lr := ⟨_, rfl⟩
              rw [hgr, hcr, hlr] at K11 r1
              clear hcu heu hgr hcr hlr Sq hcu1
              go_wp2_with fail
              go_quiet ((go_at_call 11; exact Calls.quiet_of (K11.out _)))
              go_wp2
              go_roundw
              case rel =>
                refine ⟨u + 1, cov'.set u (cu + 1), congrArg (Value.int .i64) ?_, by go_num, by omega, by omega, (below_drewN HBq.out _).setCell (Nat.le_refl _) _, row_put (RowAt.drewN HCq.out _) u (cu + 1), ?_, (RowAt.drewN HXq.out _).other (by simp only; omega) _⟩
                · rw [show u + 1 - x = (u - x) + 1 by omega, rmin_snoc, show x + (u - x) = u by omega, HMM.out, HEU.out]
                  all_goals (first | rfl | exact ite_min _ _ | omega)
                · have := HVq.out.add (u := u) (by omega) (c' := fun q => cntTo L i q + if x ≤ q ∧ q < u + 1 then 1 else 0) (fun q _ => by
                    by_cases e1 : x ≤ q ∧ q < u
                    · rw [if_pos e1, if_pos (by omega), if_neg (by omega)]
                    · by_cases e2 : q = u
                      · rw [if_neg e1, if_pos (by omega), if_pos e2]
                      · rw [if_neg e1, if_neg (by omega), if_neg e2])
                  rw [HCU.out] at this
                  exact this
              case measure => simp [intOf]; omega
            · obtain rfl : u = yb := by omega
              obtain rfl : mm = yk := by rw [← HMM.out]; exact G3.out.symm
              have i5 : (mm == 9223372036854775807) = false := by have := G4.out; simpa [NV] using this
              have DONE : Hid (∀ w', Below wq.heap.size wq w' → ∃ (i' : Nat) (cov : List Int), Value.int .i64 ((i : Int) + 1) = .int .i64 i' ∧ i' ≤ L.length ∧ Below w8.heap.size w8 w' ∧ RowAt w' w8.heap.size 3 (intsV cov) ∧ CovIs cov rst.length (cntTo L i')) := fun w' hb' => ⟨i + 1, cov', by go_num, by omega, HBq.out.trans (hb'.mono (by omega)), HCq.out.below hb' (by omega), HVq.out.congr (fun q _ => cntTo_next hlt (by rw [HY.out]) (by rw [HY.out]) q)⟩
              have k4q := cell_below HBq.out K4.out
              by_cases hi0 : i = 0
              · have j0 : decide ((0 : Int) < (i : Int)) = false := decide_eq_false (by omega)
                have j1 : decide (0 < i) = false := decide_eq_false (by omega)
                have HI0 := hid hi0
                clear hi0
                go_wp2_with fail
                go_quiet (fail)
                go_wp2
                go_roundw
                case rel => exact DONE.out _ (below_drewN (Below.refl _ _) _)
                case measure => simp [intOf]; omega
              · have j0 : decide ((0 : Int) < (i : Int)) = true := decide_eq_true (by omega)
                have j1 : decide (0 < i) = true := decide_eq_true (by omega)
                obtain ⟨pp, hpp⟩ : ∃ pp, (i - 1) / 2 = pp := ⟨_, rfl⟩
                have e1 : ((i : Int) - 1) / 2 = (pp : Int) := by omega
                have e2 : ((i : Int) - 1).tdiv 2 = (pp : Int) := by rw [Int.tdiv_eq_ediv_of_nonneg (by omega)]; exact e1
                have hpi : (pp : Int) < (L.length : Int) := by omega
                have hii1 : (1 : Int) ≤ (i : Int) := by omega
                have w1' : IntKind.i64.wrap ((i : Int) - 1) = (i : Int) - 1 := wrap64s _ (by have := HLEN8.out; omega) (by have := HLEN8.out; omega)
                have w2' : IntKind.i64.wrap (pp : Int) = (pp : Int) := wrap64s _ (by omega) (by omega)
                obtain ⟨z, hz⟩ : ∃ z, (spAt L pp) = z := ⟨_, rfl⟩
                have hcz : ∀ o, o < 4 → wq.cell? ⟨gg, pp * 4 + o, none⟩ = (spC z)[o]? := fun o ho => hz ▸ (held_cell (H8.out.below HBq.out) (by omega) ho).1
                have cz0 : wq.cell? ⟨gg, pp * 4, none⟩ = some (.int .i64 z.ahead) := hcz 0 (by omega)
                have cz1 : wq.cell? ⟨gg, pp * 4 + 1, none⟩ = some (.int .i64 z.key) := hcz 1 (by omega)
                have cz2 : wq.cell? ⟨gg, pp * 4 + 2, none⟩ = some (.int .i64 z.a) := hcz 2 (by omega)
                have cz3 : wq.cell? ⟨gg, pp * 4 + 3, none⟩ = some (.int .i64 z.b) := hcz 3 (by omega)
                have hggq : gg < wq.heap.size := by
                  rcases Nat.lt_or_ge gg wq.heap.size with h' | h'
                  · exact h'
                  · simp [World.cell?, Array.getElem?_eq_none h'] at cz0
                have hKq : w6.heap.size + 1 + 1 + 1 + 1 + 1 + 1 < wq.heap.size := by have := HBq.out.size; omega
                have KB : Hid (∀ W, Calls Yba.prog 12 #[.agg #[.int .i64 J, .int .i64 mm, .int .i64 x, .int .i64 u], .agg #[.int .i64 z.ahead, .int .i64 z.key, .int .i64 z.a, .int .i64 z.b]] W fun e w' => e = .returned (.bool false) ∧ Below W.heap.size W w') := fun W => by
                  have h := before_any ⟨J, mm, x, u⟩ z W
                  rw [show (⟨(J : Int), mm, (x : Int), (u : Int)⟩ : Sp).before z = false by have := HP8.out i (by omega) hlt; rw [HY.out, hpp, hz] at this; exact this] at h
                  exact h
                obtain ⟨za, zk, z1, z2⟩ := z
                simp only at cz0 cz1 cz2 cz3 KB
                have HI0 := hid hi0
                have HPP := hid hpp
                clear hcz hz hi0 hpp
                go_wp2_with fail
                go_region_held3 (fun wy => wy.cell? ⟨w6.heap.size + 1 + 1 + 1 + 1 + 1 + 1, 4, none⟩ = some (.slice (some ⟨gg, 0, none⟩) L.length cap) ∧ wy.cell? ⟨wr.heap.size, 0, none⟩ = some (.int .i64 J) ∧ wy.cell? ⟨wr.heap.size, 1, none⟩ = some (.int .i64 mm) ∧ wy.cell? ⟨wr.heap.size, 2, none⟩ = some (.int .i64 x) ∧ wy.cell? ⟨wr.heap.size, 3, none⟩ = some (.int .i64 u) ∧ wy.cell? ⟨gg, pp * 4, none⟩ = some (.int .i64 za) ∧ wy.cell? ⟨gg, pp * 4 + 1, none⟩ = some (.int .i64 zk) ∧ wy.cell? ⟨gg, pp * 4 + 2, none⟩ = some (.int .i64 z1) ∧ wy.cell? ⟨gg, pp * 4 + 3, none⟩ = some (.int .i64 z2))
                  (first | go_keep | (refine ⟨?_, ?_, ?_, ?_, ?_, ?_, ?_, ?_, ?_⟩ <;> (rw [hc4 _ _ (by simp; omega)]; assumption)))
                  ((go_at_call 12; refine (KB.out _).mono ?_; rintro e w4' ⟨rfl, hb4⟩; obtain ⟨hc4, hf4⟩ := bcell hb4))
                rename_i hHeld
                have HD : Hid (Below wq.heap.size wq w4') := ((Below.refl _ wq).drew).trans hb4
                clear hHeld hc4 hf4 hb4 cz0 cz1 cz2 cz3 b0 b1 b2 b3 KB k4q
                go_wp2
                go_roundw
                case rel => exact DONE.out _ HD.out
                case measure => simp [intOf]; omega
        · go_wp2
          go_meet
          case rel => exact ⟨HB.out, cov, HC.out, HV.out.congr (fun q _ => by rw [show i = L.length by omega])⟩
  case rest => as_aux_lemma =>
  rename World => w9
  obtain ⟨hb9, cov, hC9, hcov⟩ := hcut
  have B9 := hid hb9
  have HC9 := hid hC9
  have HV9 := hid hcov
  clear hb9 hC9 hcov k4
  have t1 : w9.cell? ⟨w4.heap.size + 1 + 1, 1, none⟩ = some (.slice (some ⟨w4.heap.size + 1, 0, none⟩) (2 * rst.length) (2 * rst.length)) := by rw [(T8.out.below B9.out T8.out.lt).cell]; rfl
  have N9 : Hid (RowAt w9 (w4.heap.size + 1) 3 (intsV nodes')) := N8.out.below B9.out hN8
  go_wp2_with fail
  go_loopw [41] (fun x wr => wr = w9 ∧ ∃ u : Nat, x = .int .i64 u ∧ u ≤ rst.length) (fun x _ => rst.length - (intOf x).toNat)
  case atStart => exact ⟨by trivial, 0, rfl, Nat.zero_le _⟩
  case round =>
    as_aux_lemma =>
      obtain ⟨hw, u, rfl, hu⟩ := hrel
      have hw := hw.symm
      subst hw
      by_cases hlt : u < rst.length
      · have hui : (u : Int) < (rst.length : Int) := by omega
        obtain ⟨cu, hcu⟩ : ∃ cu, nodeAt cov u = cu := ⟨_, rfl⟩
        obtain ⟨eu, heu⟩ : ∃ eu, ent nodes' rst.length u = eu := ⟨_, rfl⟩
        have c0 : w9.cell? ⟨w8.heap.size, u, none⟩ = some (.int .i64 cu) := by rw [HC9.out.cell, intsV_get (by rw [HV9.out.1]; exact hlt), hcu]
        have c1 : w9.cell? ⟨w4.heap.size + 1, rst.length + u, none⟩ = some (.int .i64 eu) := by
          rw [N9.out.cell, intsV_get (by have := S8.out.ok.1; have := RL8.out; omega), ← heu]; rfl
        have q0 : cu = (cntTo L L.length u : Int) := by rw [← hcu]; exact HV9.out.2 u hlt
        have q1 : ¬ (1 : Int) < cu := by
          have := G8.out.once u
          rw [← cntTo_all (Nat.le_refl _)] at this
          omega
        have q2 : eu ≠ NV → cu = 1 := fun h => by
          have := G8.out.all u (by rw [RL8.out]; exact hlt) trivial (by rw [heu]; exact h)
          rw [← cntTo_all (Nat.le_refl _)] at this
          omega
        have y1 : IntKind.i64.wrap ((rst.length : Int) + (u : Int)) = (rst.length : Int) + (u : Int) := wrap64s _ (by omega) (by omega)
        have y2 : ((rst.length : Int) + (u : Int)).toNat = rst.length + u := by omega
        have y3 : (0 : Int) ≤ (rst.length : Int) + (u : Int) := by omega
        have y4 : (rst.length : Int) + (u : Int) < 2 * (rst.length : Int) := by omega
        clear q0 hcu heu
        by_cases hnv : eu = NV
        · have i2 : (eu != 9223372036854775807) = false := by rw [hnv]; rfl
          clear q2 hnv
          go_wp2
          go_roundw
          case rel => exact ⟨by trivial, u + 1, by go_num, by omega⟩
          case measure => simp [intOf]; omega
        · have i2 : (eu != 9223372036854775807) = true := by simpa [NV] using hnv
          obtain rfl := q2 hnv
          clear q2 hnv
          go_wp2
          go_roundw
          case rel => exact ⟨by trivial, u + 1, by go_num, by omega⟩
          case measure => simp [intOf]; omega
      · go_wp2
        go_ret
        exact ⟨rfl, sW.out.trans (B9.out.mono sW.out.size)⟩
end Go.Proofs.Ybulkcwnq
