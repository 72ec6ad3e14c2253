import Derived.Test.YbulkcwheHeld
import Derived.Test.YbulkcwheArgs
namespace Go.Proofs.Ybulkcwhe
open Go.ChangeShapes Go.WideShapes Go.ChangeAt Go.RowKit

theorem info4 : (Yba.prog.info? 4).map (fun i => (i.zero, i.size, i.bytes)) = some (some (.bool false), 1, 1) := by kernel_rfl
theorem info3 : (Yba.prog.info? 3).map (fun i => (i.zero, i.size, i.bytes)) = some (some (.int .i64 0), 1, 8) := by kernel_rfl
theorem size4 : (Yba.prog.info? 4).map (·.size) = some 1 := by kernel_rfl
/-- make([]bool, n). -/
theorem make_bools (n : Nat) (hn : n ≤ 1025) (w : World) :
    (Instr.makeSlice 44 (.int .i64 n) (.int .i64 n)).run Yba.prog w = .ok (.slice (some ⟨w.heap.size, 0, none⟩) n n) (w.alloc (.cells (List.replicate n (Value.bool false)).toArray 4)) := by
  obtain ⟨i0, hi, hz0, hz1, hz2⟩ := info_parts info4
  have h := run_make (P := Yba.prog) w 44 4 i0 (.bool false) Yba.underlying44 hi hz0 .i64 .i64 (n : Int) (n : Int) (by omega) (by omega) (by rw [hz2]; omega) (by omega)
  rw [hz1] at h
  simpa [Value.cells, made_replicate] using h
/-- make([]int, n). -/
theorem make_ints (n : Nat) (hn : n ≤ 1024) (w : World) :
    (Instr.makeSlice 52 (.int .i64 n) (.int .i64 n)).run Yba.prog w = .ok (.slice (some ⟨w.heap.size, 0, none⟩) n n) (w.alloc (.cells (List.replicate n (Value.int .i64 0)).toArray 3)) := by
  obtain ⟨i0, hi, hz0, hz1, hz2⟩ := info_parts info3
  have h := run_make (P := Yba.prog) w 52 3 i0 (.int .i64 0) Yba.underlying52 hi hz0 .i64 .i64 (n : Int) (n : Int) (by omega) (by omega) (by rw [hz2]; omega) (by omega)
  rw [hz1] at h
  simpa [Value.cells, made_replicate] using h

/-- What zzs4892cbuild hands back, and what lies in memory behind it. -/
def Built (w w' : World) (rel : Int) (gh gs gn gc : Nat) (hs : List Bool) (ss : List Nat) (f t : Nat) : Prop :=
  Below w.heap.size w w' ∧ w.heap.size ≤ gh ∧ RowAt w' gh 4 (boolsV hs) ∧ RowAt w' gs 3 (natsV ss) ∧
  RowAt w' gn 76 [.int .i64 0, .int .i64 hs.length, .slice none 0 0, .slice (some ⟨gs, 0, none⟩) ss.length ss.length, .slice none 0 0] ∧
  RowAt w' gc 64 [.int .i64 0, .int .i64 0, .int .i64 hs.length, .int .i8 rel, .int .i64 0, .pointer (some ⟨gn, 0, none⟩), .int .i64 f, .int .i64 t] ∧
  (∀ n ∈ ss, n < hs.length) ∧ f ≤ t ∧ t ≤ ss.length ∧ ss.length ≤ 1024 ∧ hs.length ≤ 1025

theorem built_of {w wr W3 : World} {s2 n l f t : Nat} {rel : Int} {hs : List Bool} {ys : List Nat} {x y : Value} (bw3 : Below w.heap.size w W3) (hbr : Below s2 W3 wr) (h2 : w.heap.size + 1 + 1 < s2)
    (R3 : RowAt W3 (w.heap.size + 1 + 1) 4 (boolsV hs)) (RY : RowAt wr s2 3 (natsV ys)) (hn : hs.length = n + 1) (hl : ys.length = l) (hy : ∀ m ∈ ys, m < n + 1) (hf : f ≤ t) (ht : t ≤ l) (hn' : n ≤ 1024) (hl' : l ≤ 1024) :
    Built w ((((wr.setCell ⟨w.heap.size + 1, 0, none⟩ x).setCell ⟨w.heap.size + 1, 1, none⟩ y).alloc (.cells #[.int .i64 0, .int .i64 ((n : Int) + 1), .slice none 0 0, .slice (some ⟨s2, 0, none⟩) l l, .slice none 0 0] 76)).alloc
      (.cells #[.int .i64 0, .int .i64 0, .int .i64 ((n : Int) + 1), .int .i8 rel, .int .i64 0, .pointer (some ⟨wr.heap.size, 0, none⟩), .int .i64 f, .int .i64 t] 64)) rel (w.heap.size + 1 + 1) s2 wr.heap.size (wr.heap.size + 1) hs ys f t := by
  have sz := RY.lt
  have hbw : Below w.heap.size w wr := bw3.trans (hbr.mono (by omega))
  have R := R3.below hbr h2
  refine ⟨(((hbw.setCell (by simp) _).setCell (by simp) _).alloc (by simp; omega) _).alloc (by simp; omega) _, by omega, (((R.other (by simp) _).other (by simp) _).alloc _).alloc _, (((RY.other (show s2 ≠ w.heap.size + 1 by omega) _).other (show s2 ≠ w.heap.size + 1 by omega) _).alloc _).alloc _, ?_, ?_, fun m hm => by rw [hn]; exact hy m hm, hf, by rw [hl]; exact ht, by rw [hl]; exact hl', by rw [hn]; omega⟩
  · rw [hn, hl]
    have := (RowAt.new ((wr.setCell ⟨w.heap.size + 1, 0, none⟩ x).setCell ⟨w.heap.size + 1, 1, none⟩ y) 76 [.int .i64 0, .int .i64 ((n : Int) + 1), .slice none 0 0, .slice (some ⟨s2, 0, none⟩) l l, .slice none 0 0]).alloc (.cells #[.int .i64 0, .int .i64 0, .int .i64 ((n : Int) + 1), .int .i8 rel, .int .i64 0, .pointer (some ⟨wr.heap.size, 0, none⟩), .int .i64 f, .int .i64 t] 64)
    simpa using this
  · rw [hn]
    have := RowAt.new (((wr.setCell ⟨w.heap.size + 1, 0, none⟩ x).setCell ⟨w.heap.size + 1, 1, none⟩ y).alloc (.cells #[.int .i64 0, .int .i64 ((n : Int) + 1), .slice none 0 0, .slice (some ⟨s2, 0, none⟩) l l, .slice none 0 0] 76)) 64 [.int .i64 0, .int .i64 0, .int .i64 ((n : Int) + 1), .int .i8 rel, .int .i64 0, .pointer (some ⟨wr.heap.size, 0, none⟩), .int .i64 f, .int .i64 t]
    simpa using this

set_option linter.unusedSimpArgs false in
set_option maxHeartbeats 1000000 in
/-- zzs4892cbuild. -/
theorem build_any (ha : Option Addr) (hc : Nat) (last : Bool) (oa : Option Addr) (oc : Nat) (fr tz rel : Int) (hs0 : List Bool) (os0 : List Int) (w : World)
    (hv : ∀ k v, hs0[k]? = some v → ∃ b off, ha = some ⟨b, off, none⟩ ∧ w.cell? ⟨b, off + k, none⟩ = some (.bool v))
    (ov : ∀ k v, os0[k]? = some v → ∃ b off, oa = some ⟨b, off, none⟩ ∧ w.cell? ⟨b, off + k, none⟩ = some (.int .u16 v))
    (ow : ∀ v ∈ os0, 0 ≤ v ∧ v ≤ 65535) (f0 : 0 ≤ fr) (f1 : fr ≤ 65535) (t0 : 0 ≤ tz) (t1 : tz ≤ 65535) (hl : hs0.length ≤ 1024) (ol : os0.length ≤ 1024) :
    Calls Yba.prog 16 #[.agg #[.slice ha hs0.length hc, .bool last, .slice oa os0.length oc, .int .u16 fr, .int .u16 tz], .int .i8 rel] w fun e w' => ∃ (gh gs gn gc : Nat) (hs : List Bool) (ss : List Nat) (f t : Nat),
      e = .returned (.tuple #[.pointer (some ⟨gc, 0, none⟩), .agg #[.slice (some ⟨gh, 0, none⟩) hs.length hs.length, .pointer none], .slice (some ⟨gs, 0, none⟩) ss.length ss.length, .slice (some ⟨gh, 0, none⟩) hs.length hs.length, .int .i64 f, .int .i64 t]) ∧ Built w w' rel gh gs gn gc hs ss f t := by
  obtain ⟨n, hn⟩ : ∃ n, hs0.length = n := ⟨_, rfl⟩
  obtain ⟨l, hll⟩ : ∃ l, os0.length = l := ⟨_, rfl⟩
  rw [hn] at hl ⊢
  rw [hll] at ol ⊢
  obtain ⟨Z, hZ⟩ : ∃ Z, List.replicate (n + 1) (Value.bool false) = Z := ⟨_, rfl⟩
  obtain ⟨Y, hY⟩ : ∃ Y, List.replicate l (Value.int .i64 0) = Y := ⟨_, rfl⟩
  obtain ⟨C, hC⟩ : ∃ C, boolsV hs0 = C := ⟨_, rfl⟩
  have hmb := fun w => make_bools (n + 1) (by omega) w
  have hmi := fun w => make_ints l ol w
  rw [hZ] at hmb
  rw [hY] at hmi
  rw [show ((n + 1 : Nat) : Int) = (n : Int) + 1 from by omega] at hmb
  have lZ : Z.length = n + 1 := by rw [← hZ]; simp
  have lC : C.length = n := by rw [← hC]; simp [boolsV, hn]
  have LZ := hid lZ
  have LC := hid lC
  have HC := hid hC
  have HY := hid hY
  have HZ := hid hZ
  have HN := hid hn
  have HLL := hid hll
  have HV := hid hv
  have OV := hid ov
  have OW := hid ow
  clear hZ hY hC lZ lC hn hll hv ov ow
  obtain ⟨W1, hW1⟩ : ∃ W1, ((w.alloc (.cells #[.slice ha n hc, .bool last, .slice oa l oc, .int .u16 fr, .int .u16 tz] 47)).alloc (.cells #[.slice none 0 0, .pointer none] 51)).alloc (.cells Z.toArray 4) = W1 := ⟨_, rfl⟩
  have bW1 : Below w.heap.size w W1 := by rw [← hW1]; exact (((Below.refl _ w).alloc (Nat.le_refl _) _).alloc (by simp) _).alloc (by simp; omega) _
  have hg : W1.heap[w.heap.size + 1 + 1]? = some (.cells Z.toArray 4 (0, 0)) := by
    have h := RowAt.new ((w.alloc (.cells #[.slice ha n hc, .bool last, .slice oa l oc, .int .u16 fr, .int .u16 tz] 47)).alloc (.cells #[.slice none 0 0, .pointer none] 51)) 4 Z
    rw [hW1] at h
    simp at h
    exact h
  have hr0 : RowAt W1 w.heap.size 47 [.slice ha n hc, .bool last, .slice oa l oc, .int .u16 fr, .int .u16 tz] := by
    rw [← hW1]; exact ((RowAt.new w 47 _).alloc _).alloc _
  have hr1 : RowAt W1 (w.heap.size + 1) 51 [.slice none 0 0, .pointer none] := by
    rw [← hW1]
    have := (RowAt.new (w.alloc (.cells #[.slice ha n hc, .bool last, .slice oa l oc, .int .u16 fr, .int .u16 tz] 47)) 51 [.slice none 0 0, .pointer none]).alloc (.cells Z.toArray 4)
    simpa using this
  have sW1 : W1.heap.size = w.heap.size + 3 := by rw [← hW1]; simp
  have hpos : 0 < C.length → (some ⟨w.heap.size + 1 + 1, 0, none⟩ : Option Addr) = some ⟨w.heap.size + 1 + 1, 0, none⟩ ∧ ∃ ad, ha = some ad ∧ ∀ j v, C[j]? = some v → W1.cell? (ad.add j) = some v := by
    intro hp
    refine ⟨rfl, ?_⟩
    obtain ⟨v0, hv0⟩ := get_of_lt (show 0 < hs0.length by rw [HN.out, ← LC.out]; exact hp)
    obtain ⟨b, off, hb0, _⟩ := HV.out 0 v0 hv0
    refine ⟨⟨b, off, none⟩, hb0, fun j v hj => ?_⟩
    rw [← HC.out] at hj
    simp only [boolsV, List.getElem?_map, Option.map_eq_some_iff] at hj
    obtain ⟨u, hu, rfl⟩ := hj
    obtain ⟨b', off', ha', hc'⟩ := HV.out j u hu
    rw [hb0] at ha'
    obtain ⟨rfl, rfl⟩ : b = b' ∧ off = off' := by simpa using ha'
    rw [add_plain]
    exact cell_later bW1 hc'
  have hone : ∀ v ∈ C, v.oneCell' = true := by
    intro v hv
    rw [← HC.out] at hv
    obtain ⟨u, _, rfl⟩ := List.mem_map.1 hv
    rfl
  have HG := hid hg
  have HPOS := hid hpos
  have HONE := hid hone
  have HR0 := hid hr0
  have HR1 := hid hr1
  have BW1 := hid bW1
  have SW1 := hid sW1
  clear hg hpos hone hr0 hr1 bW1 sW1
  go_enter Yba.func16, Yba.ntmps16
  go_upto_region 3 with fail
  clear hW1
  have x0 : W1.cell? ⟨w.heap.size, 0, none⟩ = some (.slice ha n hc) := by rw [HR0.out.cell]; rfl
  have KMIN : Hid (C.length = Nat.min n (n + 1)) := by rw [LC.out]; exact (Nat.min_eq_left (Nat.le_succ n)).symm
  have KFIT : Hid (0 + C.length ≤ Z.length) := by
    have h1 := LC.out
    have h2 := LZ.out
    show 0 + C.length ≤ Z.length
    omega
  have Y0 : Hid (∀ w2, Below (w.heap.size + 1 + 1) W1 w2 → w2.cell? ⟨w.heap.size, 1, none⟩ = some (.bool last) ∧ w2.cell? ⟨w.heap.size, 2, none⟩ = some (.slice oa l oc)) := fun w2 hb => by
    constructor <;> (rw [hb.cell (show w.heap.size < w.heap.size + 1 + 1 from by omega), HR0.out.cell]; rfl)
  have Y1 : Hid (∀ w2 : World, w2.heap[w.heap.size + 1 + 1]? = some (.cells (splice Z 0 C).toArray 4 (0, 0)) → RowAt w2 (w.heap.size + 1 + 1) 4 (boolsV (hs0 ++ [false]))) := fun w2 h => by
    have e : splice Z 0 C = boolsV (hs0 ++ [false]) := by
      rw [← HC.out, ← HZ.out]
      simp [splice, boolsV, HN.out]
    rw [e] at h
    exact h
  have Y2 : Hid (∀ w2, RowAt w2 (w.heap.size + 1 + 1) 4 (boolsV (hs0 ++ [false])) → w2.cell? ⟨w.heap.size + 1 + 1, n, none⟩ = some (.bool false) ∧ w2.frozen? ⟨w.heap.size + 1 + 1, n, none⟩ = false) := fun w2 h => by
    refine ⟨?_, h.frozen n⟩
    rw [h.cell]
    exact boolsV_get (by rw [← HN.out]; simp)
  have Y3 : Hid (∀ w2, Below (w.heap.size + 1 + 1) W1 w2 → w.heap.size < w2.heap.size ∧ w.heap.size + 1 < w2.heap.size ∧ w.heap.size + 1 + 1 < w2.heap.size) := fun w2 hb => by
    have h1 := hb.size
    have h2 := SW1.out
    omega
  go_wp2_with (refine wpList_copy_splice rfl (.tmp 26) (.tmp 28) 44 44 rfl 4 Yba.underlying44 size4 (some ⟨w.heap.size + 1 + 1, 0, none⟩) ha (n + 1) (n + 1) n hc rfl rfl (w.heap.size + 1 + 1) 0 Z 4 HG.out C KMIN.out HPOS.out KFIT.out HONE.out (w.heap.size + 1 + 1) W1 (Below.refl _ _) (Nat.le_refl _) ?_; intro w2 HG2 hB2; obtain ⟨y1, y2⟩ := Y0.out w2 hB2; have R2 := hid (Y1.out w2 HG2.out); obtain ⟨y3, y4⟩ := Y2.out w2 R2.out; obtain ⟨y5, y6, y7⟩ := Y3.out w2 hB2)
  obtain ⟨W3, hW3⟩ : ∃ W3, (w2.setCell ⟨w.heap.size + 1 + 1, n, none⟩ (.bool last)).alloc (.cells Y.toArray 3) = W3 := ⟨_, rfl⟩
  have s3 : W3.heap.size = w2.heap.size + 1 := by rw [← hW3]; simp
  have b23 : Below (w.heap.size + 1 + 1) w2 W3 := by rw [← hW3]; exact ((Below.refl _ w2).setCell (by simp) _).alloc (by simp; omega) _
  have R3 : RowAt W3 (w.heap.size + 1 + 1) 4 (boolsV (hs0 ++ [last])) := by
    have e : boolsV (hs0 ++ [last]) = (boolsV (hs0 ++ [false])).set n (.bool last) := by
      simp [boolsV, ← HN.out]
    rw [← hW3, e]
    exact (R2.out.set n _).alloc _
  have Y3' : RowAt W3 w2.heap.size 3 (natsV (List.replicate l 0)) := by
    rw [← hW3]
    have := RowAt.new (w2.setCell ⟨w.heap.size + 1 + 1, n, none⟩ (.bool last)) 3 Y
    rw [← HY.out] at this ⊢
    simpa [natsV] using this
  have b3 : Below (w.heap.size + 1 + 1) W1 W3 := hB2.trans b23
  have R30 := HR0.out.below b3 (by omega)
  have R31 := HR1.out.below b3 (by omega)
  have bw3 : Below w.heap.size w W3 := BW1.out.trans (b3.mono (by omega))
  rw [hW3]
  have R3h := hid R3
  have Y3h := hid Y3'
  have R30h := hid R30
  have R31h := hid R31
  have s3h := hid s3
  clear hW3 R2 HG2 hB2 y1 y2 y3 y4 Y0 Y1 Y2 Y3 KMIN KFIT x0 HR0 HR1 HONE HPOS HG HV HC HZ LZ LC hmb hmi b23 b3 R3 Y3' R30 R31 s3
  go_loopw [13, 14, 43] (fun _ _ i wr => ∃ k : Nat, k ≤ l ∧ i = .int .i64 k ∧ Below w2.heap.size W3 wr ∧ ∃ ys : List Nat, ys.length = l ∧ RowAt wr w2.heap.size 3 (natsV ys) ∧ ∀ m ∈ ys, m < n + 1) (fun _ _ i _ => l - (intOf i).toNat)
  case atStart => exact ⟨0, Nat.zero_le _, rfl, Below.refl _ _, List.replicate l 0, by simp, Y3h.out, fun m hm => by have := (List.mem_replicate.1 hm).2; omega⟩
  case round =>
    obtain ⟨k, hk, rfl, hbr, ys, hyl, hry, hym⟩ := hrel
    have HYL := hid hyl
    have HRY := hid hry
    have HYM := hid hym
    clear hyl hry hym
    by_cases hlt : k < l
    · obtain ⟨v, hv⟩ := get_of_lt (show k < os0.length by rw [HLL.out]; exact hlt)
      obtain ⟨v0, v1⟩ := OW.out v (List.mem_of_getElem? hv)
      obtain ⟨b, off, rfl, hcw⟩ := OV.out k v hv
      have hc1 := cell_later (bw3.trans (hbr.mono (by omega))) hcw
      obtain ⟨m, hm, hmn⟩ : ∃ m : Nat, v % ((n : Int) + 1) = m ∧ m < n + 1 := by
        have h1 := Int.emod_nonneg v (show (n : Int) + 1 ≠ 0 by omega)
        have h2 := Int.emod_lt_of_pos v (show (0 : Int) < (n : Int) + 1 by omega)
        exact ⟨(v % ((n : Int) + 1)).toNat, by omega, by omega⟩
      obtain ⟨y, hy⟩ := get_of_lt (show k < ys.length by rw [HYL.out]; exact hlt)
      have hc2 : wr.cell? ⟨w2.heap.size, k, none⟩ = some (.int .i64 (y : Int)) := by rw [HRY.out.cell]; exact natsV_get hy
      have hf2 : wr.frozen? ⟨w2.heap.size, k, none⟩ = false := HRY.out.frozen k
      clear hcw hv hy
      go_wp2
      go_roundw
      case rel =>
        refine ⟨k + 1, by omega, by go_num, hbr.setCell (by simp) _, ys.set k m, by rw [List.length_set]; exact HYL.out, ?_, fun x hx => ?_⟩
        · have := HRY.out.set k (.int .i64 (m : Int))
          rw [show (natsV ys).set k (.int .i64 (m : Int)) = natsV (ys.set k m) from by simp [natsV, List.map_set]] at this
          exact this
        · rcases List.mem_or_eq_of_mem_set hx with h | h
          · exact HYM.out x h
          · omega
      case measure => simp [intOf]; omega
    · have r3 : wr.cell? ⟨w.heap.size, 3, none⟩ = some (.int .u16 fr) := by rw [hbr.cell y5, R30h.out.cell]; rfl
      have r4 : wr.cell? ⟨w.heap.size, 4, none⟩ = some (.int .u16 tz) := by rw [hbr.cell y5, R30h.out.cell]; rfl
      obtain ⟨F, hF, hFl⟩ : ∃ m : Nat, fr % ((l : Int) + 1) = m ∧ m ≤ l := by
        have h1 := Int.emod_nonneg fr (show (l : Int) + 1 ≠ 0 by omega)
        have h2 := Int.emod_lt_of_pos fr (show (0 : Int) < (l : Int) + 1 by omega)
        exact ⟨(fr % ((l : Int) + 1)).toNat, by omega, by omega⟩
      obtain ⟨T, hT, hTl⟩ : ∃ m : Nat, tz % ((l : Int) + 1) = m ∧ m ≤ l := by
        have h1 := Int.emod_nonneg tz (show (l : Int) + 1 ≠ 0 by omega)
        have h2 := Int.emod_lt_of_pos tz (show (0 : Int) < (l : Int) + 1 by omega)
        exact ⟨(tz % ((l : Int) + 1)).toNat, by omega, by omega⟩
      have q0 : wr.cell? ⟨w.heap.size + 1, 0, none⟩ = some (.slice none 0 0) := by rw [hbr.cell y6, R31h.out.cell]; rfl
      have q1 : wr.cell? ⟨w.heap.size + 1, 1, none⟩ = some (.pointer none) := by rw [hbr.cell y6, R31h.out.cell]; rfl
      have g0 : wr.frozen? ⟨w.heap.size + 1, 0, none⟩ = false := by rw [hbr.frozen y6]; exact R31h.out.frozen 0
      have g1 : wr.frozen? ⟨w.heap.size + 1, 1, none⟩ = false := by rw [hbr.frozen y6]; exact R31h.out.frozen 1
      have swr : w.heap.size + 1 < wr.heap.size := by have h1 := hbr.size; have h2 := s3h.out; omega
      have swr0 : w.heap.size < wr.heap.size := by omega
      have swr1 : w.heap.size + 1 < wr.heap.size + 1 := by omega
      have LH : Hid ((hs0 ++ [last]).length = n + 1) := by
        have := HN.out
        show (hs0 ++ [last]).length = n + 1
        simp [this]
      by_cases hgt : T < F
      · have hgt' : (T : Int) < (F : Int) := by omega
        go_wp2
        refine bodyPost_ret (v := .tuple #[.pointer (some ⟨wr.heap.size + 1, 0, none⟩), .agg #[.slice (some ⟨w.heap.size + 1 + 1, 0, none⟩) (n + 1) (n + 1), .pointer none], .slice (some ⟨w2.heap.size, 0, none⟩) l l, .slice (some ⟨w.heap.size + 1 + 1, 0, none⟩) (n + 1) (n + 1), .int .i64 T, .int .i64 F]) (by simp [results, Yba.results16, go_sem, hF, hT, q0, q1, swr, swr0, swr1]) rfl ?_
        refine ⟨w.heap.size + 1 + 1, w2.heap.size, wr.heap.size, wr.heap.size + 1, hs0 ++ [last], ys, T, F, by rw [LH.out, HYL.out], ?_⟩
        exact built_of bw3 hbr y7 R3h.out HRY.out LH.out HYL.out HYM.out (by omega) hFl hl ol
      · have hgt' : ¬ (T : Int) < (F : Int) := by omega
        go_wp2
        refine bodyPost_ret (v := .tuple #[.pointer (some ⟨wr.heap.size + 1, 0, none⟩), .agg #[.slice (some ⟨w.heap.size + 1 + 1, 0, none⟩) (n + 1) (n + 1), .pointer none], .slice (some ⟨w2.heap.size, 0, none⟩) l l, .slice (some ⟨w.heap.size + 1 + 1, 0, none⟩) (n + 1) (n + 1), .int .i64 F, .int .i64 T]) (by simp [results, Yba.results16, go_sem, hF, hT, q0, q1, swr, swr0, swr1]) rfl ?_
        refine ⟨w.heap.size + 1 + 1, w2.heap.size, wr.heap.size, wr.heap.size + 1, hs0 ++ [last], ys, F, T, by rw [LH.out, HYL.out], ?_⟩
        exact built_of bw3 hbr y7 R3h.out HRY.out LH.out HYL.out HYM.out (by omega) hTl hl ol
end Go.Proofs.Ybulkcwhe
