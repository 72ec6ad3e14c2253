import Derived.Test.YbulkcwheRows
import Derived.WalkKit
import Derived.ProofKit
import Derived.OpenShut
import Derived.ShutString
import Derived.Test.YbulkcwheArgs
import Derived.ChangeOld
import Derived.Below
namespace Go.Proofs.Ybulkcwhe.lawS4892ABuilt
open Go.ChangeShapes Go.WideShapes Go.ChangeAt Go.RowKit
open Go.ChangeMaps (open_string shut_string)
set_option linter.unusedVariables false

theorem own : ownKnob Yba.prog.godebug = none := by kernel_rfl
theorem laidOut : laidOutB Yba.prog = true := by kernel_rfl


/-- The byte that is picked. -/
def pick (v : Int) : Int := if v % 4 = 0 then 32 else if v % 4 = 1 then 9 else if v % 4 = 2 then 13 else 10
theorem ws_pick (v : Int) : ws (pick v) = true := by
  unfold pick; split; rfl; split; rfl; split <;> rfl
theorem all_take_set {ys : List Int} {k : Nat} {v : Int} (hk : k < ys.length) (h : (ys.take k).all ws = true) (hv : ws v = true) : ((ys.set k v).take (k + 1)).all ws = true := by
  rw [List.take_succ_eq_append_getElem (by simpa using hk), List.all_append]
  have e : (ys.set k v).take k = ys.take k := by
    rw [List.take_set]; exact List.set_eq_of_length_le (by simp; omega)
  rw [e, h]; simp [hv]
theorem all_set_false {ys : List Int} {k : Nat} {v : Int} (hk : k < ys.length) (hv : ws v = false) : (ys.set k v).all ws = false := by
  rw [List.all_eq_false]
  exact ⟨v, List.mem_of_getElem? (List.getElem?_set_self hk), by simpa using hv⟩
theorem map_set' (ys : List Int) (k : Nat) (v : Int) : (ys.map (Value.int .u8)).set k (.int .u8 v) = (ys.set k v).map (Value.int .u8) := by
  rw [List.map_set]
theorem pick_cell (v : Int) (h : 0 ≤ v) : ([Value.int .u8 32, .int .u8 9, .int .u8 13, .int .u8 10] : List Value)[(v % 4).toNat]? = some (.int .u8 (pick v)) := by
  have : v % 4 = 0 ∨ v % 4 = 1 ∨ v % 4 = 2 ∨ v % 4 = 3 := by omega
  rcases this with h | h | h | h <;> simp [pick, h]

/-! ### STEP 1: THE WALK: the Go text returns true, AND WRITES NOTHING THAT WAS THERE: 'Below w.heap.size w w'' (Derived/Below.lean: '.refl', '.alloc', '.drew', '.setCell' at a new block, '.trans'). Open each 'IsRow' by 'rcases' AHEAD of 'go_enter'; part every test ahead of the walk. -/
theorem walk_zero (a0 : Option Addr) (cap0 : Nat) (a1 : Int) (a2 : Int) (w : World) :
    Calls Yba.prog 4 #[.slice a0 0 cap0, .int .u16 a1, .int .u8 a2] w fun e w' => e = .returned (.bool true) ∧ Below w.heap.size w w' := by
  have hmk : ∀ w, (Instr.makeSlice 22 (.int .i64 0) (.int .i64 0)).run Yba.prog w = .ok (.slice (some ⟨w.heap.size, 0, none⟩) 0 0) (w.alloc (.cells #[] 5)) := fun w => by kernel_rfl
  go_enter Yba.func4, Yba.ntmps4
  go_wp2
  refine wp_loop_rounds 1 ?_
  rw [rounds_succ]
  go_wp2_with (go_at_call 9; refine (space_none _ _ _).mono ?_; rintro e w' ⟨rfl, hw⟩; subst hw)
  go_ret
  exact ⟨rfl, ((Below.refl _ w).alloc (Nat.le_refl _) _).alloc (by simp) _⟩

set_option maxHeartbeats 1000000 in
theorem walk (a0 : Option Addr) (len0 cap0 : Nat) (z0 : List Int) (a1 : Int) (a2 : Int) (w : World) (w0 : IsRow .u8 w a0 len0 cap0 z0) (w1 : (Lit.int .u16 a1).wf = true) (w2 : (Lit.int .u8 a2).wf = true) :
    Calls Yba.prog 4 #[.slice a0 len0 cap0, .int .u16 a1, .int .u8 a2] w fun e w' => e = .returned (.bool true) ∧ Below w.heap.size w w' := by
  by_cases hbig : 4096 < len0
  · have hbig' : (4096 : Int) < (len0 : Int) := by omega
    clear w0
    go_enter Yba.func4, Yba.ntmps4
    go_wp2
    go_ret
    exact ⟨rfl, Below.refl _ _⟩
  have hn : len0 ≤ 4096 := by omega
  by_cases hz : len0 = 0
  · subst hz
    exact walk_zero a0 cap0 a1 a2 w
  obtain ⟨xs, hxl, hxc, hxw⟩ := row_view w0
  clear w0
  subst hxl
  have hb1 := bounds_u16 w1
  have hz0 : ((xs.length : Int) == 0) = false := by simp; intro h; exact hz (by simp [h])
  obtain ⟨j, hj, hjl⟩ : ∃ j : Nat, a1 % (xs.length : Int) = j ∧ j < xs.length := by
    have h1 := Int.emod_nonneg a1 (show (xs.length : Int) ≠ 0 by omega)
    have h2 := Int.emod_lt_of_pos a1 (show (0 : Int) < xs.length by omega)
    exact ⟨(a1 % (xs.length : Int)).toNat, by omega, by omega⟩
  have hp1 : (0 : Int) < xs.length := by omega
  have ha1 : 0 ≤ a1 := by omega
  have ha2 : a1 ≤ 65535 := by omega
  clear hb1 hz
  obtain ⟨Z, hZ⟩ : ∃ Z, List.replicate xs.length (Value.int .u8 0) = Z := ⟨_, rfl⟩
  have hmk := fun w => make_bytes xs.length hn w
  rw [hZ] at hmk
  have HX := hid hxc
  have HZ := hid hZ
  clear hxc hZ
  go_enter Yba.func4, Yba.ntmps4
  go_wp2
  go_loopw [9] (fun i wr => ∃ k : Nat, k ≤ xs.length ∧ i = .int .i64 k ∧ Below w.heap.size w wr ∧ RowAt wr w.heap.size 26 [.int .u8 32, .int .u8 9, .int .u8 13, .int .u8 10] ∧ ∃ ys : List Int, ys.length = xs.length ∧ RowAt wr (w.heap.size + 1) 5 (ys.map (Value.int .u8)) ∧ (ys.take k).all ws = true) (fun i _ => xs.length - (intOf i).toNat)
  case atStart =>
    refine ⟨0, Nat.zero_le _, rfl, ((Below.refl _ w).alloc (Nat.le_refl _) _).alloc (by simp) _, (RowAt.new w 26 _).alloc _, List.replicate xs.length 0, by simp, ?_, by simp⟩
    have := RowAt.new (w.alloc (.cells #[.int .u8 32, .int .u8 9, .int .u8 13, .int .u8 10] 26)) 5 Z
    rw [← HZ.out] at this ⊢
    simpa using this
  case round =>
    obtain ⟨k, hk, rfl, hbr, hr1, ys, hyl, hr2, hall⟩ := hrel
    have HR1 := hid hr1
    have HR2 := hid hr2
    have HA := hid hall
    have HL := hid hyl
    clear hr1 hr2 hall hyl
    by_cases hlt : k < xs.length
    · obtain ⟨v, hv⟩ := get_of_lt hlt
      have hvw := bounds_u8 (hxw v (List.mem_of_getElem? hv))
      obtain ⟨hv0, hv1⟩ : 0 ≤ v ∧ v ≤ 255 := by omega
      obtain ⟨b, off, rfl, hcw⟩ := HX.out k v hv
      have hc1 := cell_later hbr hcw
      have hc2 : wr.cell? ⟨w.heap.size, (v % 4).toNat, none⟩ = some (.int .u8 (pick v)) := by rw [HR1.out.cell]; exact pick_cell v hv0
      have hf3 : wr.frozen? ⟨w.heap.size + 1, k, none⟩ = false := HR2.out.frozen k
      obtain ⟨y, hy⟩ := get_of_lt (show k < ys.length by rw [HL.out]; exact hlt)
      have hc3 : wr.cell? ⟨w.heap.size + 1, k, none⟩ = some (.int .u8 y) := by rw [HR2.out.cell]; simp [hy]
      clear hcw hv hvw hy
      go_wp2
      go_roundw
      case rel =>
        refine ⟨k + 1, by omega, by go_num, hbr.setCell (by simp) _, HR1.out.other (by simp) _, ys.set k (pick v), by rw [List.length_set]; exact HL.out, ?_, all_take_set (by rw [HL.out]; exact hlt) HA.out (ws_pick v)⟩
        rw [← map_set']
        exact HR2.out.set k _
      case measure => simp [intOf]; omega
    · have hall : ys.all ws = true := by have := HA.out; rwa [List.take_of_length_le (by rw [HL.out]; omega)] at this
      have kc : Hid (Calls Yba.prog 9 #[.slice (some ⟨w.heap.size + 1, 0, none⟩) xs.length xs.length] wr fun e w' => e = .returned (.bool true) ∧ w' = wr) := by
        have := space_any (w.heap.size + 1) xs.length ys wr (by rw [HL.out]; exact hn) HR2.out
        rw [hall, HL.out] at this
        exact this
      have HALL := hid hall
      clear hall
      obtain ⟨y, hy⟩ := get_of_lt (show j < ys.length by rw [HL.out]; exact hjl)
      have hc3 : wr.cell? ⟨w.heap.size + 1, j, none⟩ = some (.int .u8 y) := by rw [HR2.out.cell]; simp [hy]
      have hf3 : wr.frozen? ⟨w.heap.size + 1, j, none⟩ = false := HR2.out.frozen j
      have kd : Hid (∀ v, ws v = false → Calls Yba.prog 9 #[.slice (some ⟨w.heap.size + 1, 0, none⟩) xs.length xs.length] (wr.setCell ⟨w.heap.size + 1, j, none⟩ (.int .u8 v)) fun e w' => e = .returned (.bool false) ∧ w' = wr.setCell ⟨w.heap.size + 1, j, none⟩ (.int .u8 v)) := by
        intro v hv
        have hr := HR2.out.set j (.int .u8 v)
        rw [map_set'] at hr
        have := space_any (w.heap.size + 1) xs.length (ys.set j v) _ (by rw [List.length_set, HL.out]; exact hn) hr
        rw [all_set_false (by rw [HL.out]; exact hjl) hv, List.length_set, HL.out] at this
        exact this
      have hbv : ∀ v, Below w.heap.size w (wr.setCell ⟨w.heap.size + 1, j, none⟩ (.int .u8 v)) := fun v => hbr.setCell (by simp) _
      have HBV := hid hbv
      clear hy hbv
      rcases hb : ws a2 with _ | _
      · go_wp2_with (first
          | (go_at_call 8; refine (aws_any _ _).mono ?_; rintro e w' ⟨rfl, hw⟩; subst hw)
          | (go_at_call 9; refine kc.out.mono ?_; rintro e w' ⟨rfl, hw⟩; subst hw; clear kc)
          | (go_at_call 9; refine (kd.out a2 hb).mono ?_; rintro e w' ⟨rfl, hw⟩; subst hw))
        go_ret
        exact ⟨rfl, HBV.out a2⟩
      · go_wp2_with (first
          | (go_at_call 8; refine (aws_any _ _).mono ?_; rintro e w' ⟨rfl, hw⟩; subst hw)
          | (go_at_call 9; refine kc.out.mono ?_; rintro e w' ⟨rfl, hw⟩; subst hw; clear kc)
          | (go_at_call 9; refine (kd.out 97 rfl).mono ?_; rintro e w' ⟨rfl, hw⟩; subst hw))
        go_ret
        exact ⟨rfl, HBV.out 97⟩

/-! ### THE ROW's STEP: WRITTEN OUT: LEAVE IT -/
set_option maxRecDepth 100000 in
theorem lifted (os : Os) (started : os.Started) (H : Type) (enc : TypeId × Value → H) :
    ReturnsInHanded {} Yba.checked os 4 .any (Rows.lawS4892ABuiltSpec.pre6 enc Yba.prog Yba.f4 Rows.lawS4892ABuiltRow.domain false) (Rows.lawS4892ABuiltSpec.post enc Yba.prog Yba.f4 false true false false) := by
  refine returnsInHanded_of_change (C := Yba.checked) own started (by kernel_rfl) Yba.func4
    (ChangeSpec.witness6 (enc := enc) (C := Yba.checked) false ⟨#[], #[.slice none 0 0, .int .u16 0, .int .u8 0], []⟩ 8 (by kernel_rfl) (by kernel_rfl) (by kernel_rfl) (by kernel_rfl)) ?_
  intro W base args ds gs before hval0 hW hcnd _
  have hval : ∀ (j : Nat) t v, Yba.f4.params[j]? = some t → args[j]? = some v → Value.okWide Yba.prog W .any base t v := hval0
  have hW' := hW
  obtain ⟨p, q, hA0, hV, rfl, hfz, hnd⟩ := hW
  have hA : DataW.TrodAll enc Yba.prog W 0 (fun _ => true) true Yba.f4.params.toList args.toList ds p := hA0
  rw [Yba.params4] at hA hval
  obtain ⟨v0, vs0, d0, ds0, p0, q0, hargs, rfl, rfl, h0, r0⟩ := trodAll_cons hA
  obtain ⟨v1, vs1, d1, ds1, p1, q1, rfl, rfl, rfl, h1, r1⟩ := trodAll_cons r0
  obtain ⟨v2, vs2, d2, ds2, p2, q2, rfl, rfl, rfl, h2, r2⟩ := trodAll_cons r1
  obtain ⟨rfl, rfl, rfl⟩ := trodAll_nil r2
  obtain rfl : args = #[v0, v1, v2] := by cases args; simp_all
  obtain ⟨rfl, rfl⟩ := trodVars_none hV
  obtain ⟨a0, len0, cap0, rfl⟩ := okWide_slice Yba.underlying22 (hval 0 22 v0 rfl rfl)
  have k0 := h0
  have lt0 : ∀ x ∈ p0, x.block < W.heap.size := by obtain ⟨m, hm⟩ := k0; exact DataW.trod_lt m _ _ _ hm
  obtain ⟨z0, w0⟩ : ∃ zs, IsRow .u8 W a0 len0 cap0 zs := by
    obtain ⟨fuel, hf⟩ := h0
    rcases open_ints Yba.underlying22 Yba.underlying5 (by kernel_rfl) hf with ⟨hcs, _⟩ | ⟨x, l, c, zs, hcs, _, hl, hm, hz, _, hcell, hwz⟩
    · simp [Value.cells] at hcs
      obtain ⟨rfl, rfl, rfl⟩ := hcs
      exact ⟨[], .inl ⟨rfl, rfl, rfl, rfl⟩⟩
    · simp [Value.cells] at hcs
      obtain ⟨rfl, rfl, rfl⟩ := hcs
      exact ⟨zs, .inr ⟨_, rfl, hl, hm, by simpa using hz, hcell, hwz⟩⟩
  obtain ⟨a1, rfl, rfl, rfl, w1⟩ := open_int Yba.underlying25 (hval 1 25 v1 rfl rfl) h1
  obtain ⟨a2, rfl, rfl, rfl, w2⟩ := open_int Yba.underlying5 (hval 2 5 v2 rfl rfl) h2
  clear hA0 hval0
  refine (walk a0 len0 cap0 z0 a1 a2 W w0 w1 w2).mono fun e W' ⟨he, bel⟩ => ?_
  subst he
  exact ⟨_, rfl, _, _, _, [], _, [], hW', trodAll_mk1 (shut_bool Yba.underlying4 _), (trodAll_cons_mk (Below.trod laidOut (by kernel_rfl) (of_decide_eq_true (by kernel_rfl)) k0 bel lt0) (trodAll_cons_mk (shut_int Yba.underlying25 w1) (trodAll_cons_mk (shut_int Yba.underlying5 w2) trodAll_mk0))), rfl, bel.frame _, fun h => by cases h⟩

theorem over : Rows.lawS4892ABuiltRow.holds Yba.pinned (OpenSpec.ofChange Rows.lawS4892ABuiltSpec) :=
  OpenClaim.holds_of_wide 4 Yba.f4 rfl rfl rfl rfl rfl rfl rfl ⟨rfl, rfl, rfl, rfl, rfl⟩ rfl rfl rfl rfl rfl (by kernel_rfl) Yba.func4 (by kernel_rfl)
    (of_decide_eq_true (by kernel_rfl)) (by unfold Func.isWrapper; first | (rw [if_pos (by decide +kernel)]; kernel_rfl) | (rw [if_neg (by decide +kernel)]; exact ⟨rfl, rfl⟩))
    (fun os started H enc _ => lifted os started H enc)

/-- ████ THE STATEMENT ████ -/
theorem proved : Rows.LawS4892ABuiltSaid := over
end Go.Proofs.Ybulkcwhe.lawS4892ABuilt
