import Derived.Test.YbulkcwheRows
import Derived.WalkKit
import Derived.ProofKit
import Derived.OpenShut
import Derived.ShutString
import Derived.Test.YbulkcwheSpace
import Derived.ChangeOld
import Derived.Below
namespace Go.Proofs.Ybulkcwhe.lawS4892AModel
open Go.ChangeShapes Go.WideShapes Go.ChangeAt Go.RowKit
open Go.ChangeMaps (open_string shut_string)
set_option linter.unusedVariables false

theorem own : ownKnob Yba.prog.godebug = none := by kernel_rfl
theorem laidOut : laidOutB Yba.prog = true := by kernel_rfl

/-- WHAT THE WALK IS TOLD OF A SLICE OF INTEGERS THAT CAME IN: it is nil; or it leads to a row of 'cap' cells, the numbers 'zs' (the first 'len' are its elements, the rest its spare room), each fitting its kind. -/
def IsRow (k : IntKind) (w : World) (a : Option Addr) (len cap : Nat) (zs : List Int) : Prop :=
  (a = none ∧ len = 0 ∧ cap = 0 ∧ zs = []) ∨
  ∃ x, a = some x ∧ len ≤ cap ∧ cap ≤ maxLen ∧ zs.length = cap ∧ (∀ i, i < zs.length → w.cell? (x.add i) = some (.int k (zs.getD i 0))) ∧ ∀ n ∈ zs, (Lit.int k n).wf = true


theorem info5 : (Yba.prog.info? 5).map (fun i => (i.zero, i.size, i.bytes)) = some (some (.int .u8 0), 1, 1) := by kernel_rfl
theorem size5 : (Yba.prog.info? 5).map (·.size) = some 1 := by kernel_rfl
/-- make([]byte, n). -/
theorem make_bytes (n : Nat) (hn : n ≤ 4096) (w : World) :
    (Instr.makeSlice 22 (.int .i64 n) (.int .i64 n)).run Yba.prog w = .ok (.slice (some ⟨w.heap.size, 0, none⟩) n n) (w.alloc (.cells (List.replicate n (Value.int .u8 0)).toArray 5)) := by
  obtain ⟨i0, hi, hz0, hz1, hz2⟩ := info_parts info5
  have h := run_make (P := Yba.prog) w 22 5 i0 (.int .u8 0) Yba.underlying22 hi hz0 .i64 .i64 (n : Int) (n : Int) (by omega) (by omega) (by rw [hz2]; omega) (by omega)
  rw [hz1] at h
  simpa [Value.cells, made_replicate] using h
theorem splice_all {α : Type} (Z C : List α) (h : C.length = Z.length) : splice Z 0 C = C := by
  unfold splice; rw [List.take_zero, List.nil_append, List.drop_of_length_le (by omega), List.append_nil]

/-- The elements of a slice of integers that came in, with their cells. -/
theorem row_view {k0 : IntKind} {w : World} {a : Option Addr} {len cap : Nat} {zs : List Int} (h0 : IsRow k0 w a len cap zs) :
    ∃ xs : List Int, xs.length = len ∧ (∀ k v, xs[k]? = some v → ∃ b off, a = some ⟨b, off, none⟩ ∧ w.cell? ⟨b, off + k, none⟩ = some (.int k0 v)) ∧ ∀ v ∈ xs, (Lit.int k0 v).wf = true := by
  rcases h0 with ⟨rfl, rfl, rfl, rfl⟩ | ⟨x, rfl, hl, hm, hz, hcell, hwz⟩
  · exact ⟨[], rfl, fun k v h => by simp at h, fun v h => by simp at h⟩
  · refine ⟨zs.take len, by simp; omega, fun k v h => ?_, fun v h => hwz v (List.mem_of_mem_take h)⟩
    have hk : k < len := by have := (List.getElem?_eq_some_iff.1 h).1; simp at this; omega
    have hk' : k < zs.length := by omega
    have hc := hcell k hk'
    have hc0 := hcell 0 (by omega)
    obtain ⟨b, off, spot⟩ := x
    have hspot : spot = none := by simpa [Addr.add] using World.cell?_spot hc0
    subst hspot
    rw [List.getElem?_take_of_lt hk, List.getElem?_eq_getElem hk'] at h
    rw [add_plain] at hc
    refine ⟨b, off, rfl, ?_⟩
    simp [List.getElem?_eq_getElem hk'] at hc h
    rw [hc, h]

/-! ### STEP 1: THE WALK: the Go text returns true, AND WRITES NOTHING THAT WAS THERE: 'Below w.heap.size w w'' (Derived/Below.lean: '.refl', '.alloc', '.drew', '.setCell' at a new block, '.trans'). Open each 'IsRow' by 'rcases' AHEAD of 'go_enter'; part every test ahead of the walk. -/
theorem walk (a0 : Option Addr) (len0 cap0 : Nat) (z0 : List Int) (w : World) (w0 : IsRow .u8 w a0 len0 cap0 z0) :
    Calls Yba.prog 3 #[.slice a0 len0 cap0] w fun e w' => e = .returned (.bool true) ∧ Below w.heap.size w w' := by
  by_cases hbig : 4096 < len0
  · have hbig' : (4096 : Int) < (len0 : Int) := by omega
    clear w0
    go_enter Yba.func3, Yba.ntmps3
    go_wp2
    go_ret
    exact ⟨rfl, Below.refl _ _⟩
  have hn : len0 ≤ 4096 := by omega
  obtain ⟨xs, hxl, hxc, _⟩ := row_view w0
  clear w0
  subst hxl
  obtain ⟨Z, hZ⟩ : ∃ Z, List.replicate xs.length (Value.int .u8 0) = Z := ⟨_, rfl⟩
  obtain ⟨C, hC⟩ : ∃ C, xs.map (Value.int .u8) = C := ⟨_, rfl⟩
  have hmk := fun w => make_bytes xs.length hn w
  rw [hZ] at hmk
  have lZ : Z.length = xs.length := by rw [← hZ]; simp
  have lC : C.length = xs.length := by rw [← hC]; simp
  have LZ := hid lZ
  have LC := hid lC
  have HC := hid hC
  have hg : Hid ((w.alloc (.cells Z.toArray 5)).heap[w.heap.size]? = some (.cells Z.toArray 5 (0, 0))) := RowAt.new w 5 Z
  have hpos : Hid (0 < C.length → (some ⟨w.heap.size, 0, none⟩ : Option Addr) = some ⟨w.heap.size, 0, none⟩ ∧ ∃ ad, a0 = some ad ∧ ∀ j v, C[j]? = some v → (w.alloc (.cells Z.toArray 5)).cell? (ad.add j) = some v) := by
    intro hp
    refine ⟨rfl, ?_⟩
    obtain ⟨v0, hv0⟩ := get_of_lt (show 0 < xs.length by omega)
    obtain ⟨b, off, ha, _⟩ := hxc 0 v0 hv0
    refine ⟨⟨b, off, none⟩, ha, fun j v hj => ?_⟩
    rw [← hC] at hj
    simp only [List.getElem?_map, Option.map_eq_some_iff] at hj
    obtain ⟨u, hu, rfl⟩ := hj
    obtain ⟨b', off', ha', hc⟩ := hxc j u hu
    rw [ha] at ha'
    obtain ⟨rfl, rfl⟩ : b = b' ∧ off = off' := by simpa using ha'
    rw [add_plain]
    exact cell_later ((Below.refl _ w).alloc (Nat.le_refl _) _) hc
  have hone : Hid (∀ v ∈ C, v.oneCell' = true) := by
    intro v hv
    rw [← hC] at hv
    obtain ⟨u, _, rfl⟩ := List.mem_map.1 hv
    rfl
  have hb0 : Hid (Below w.heap.size w (w.alloc (.cells Z.toArray 5))) := (Below.refl _ w).alloc (Nat.le_refl _) _
  clear hZ hC lZ lC
  go_enter Yba.func3, Yba.ntmps3
  go_wp2_with (refine wpList_copy_splice rfl (.tmp 14) (.tmp 15) 22 22 rfl 5 Yba.underlying22 size5 (some ⟨w.heap.size, 0, none⟩) a0 xs.length xs.length xs.length cap0 rfl rfl w.heap.size 0 Z 5 hg.out C (by rw [LC.out]; simp) hpos.out (by rw [LC.out, LZ.out]; omega) hone.out w.heap.size w hb0.out (Nat.le_refl _) ?_; intro w2 HG2 hB2)
  have hR2 : RowAt w2 w.heap.size 5 (xs.map (Value.int .u8)) := by
    have := HG2.out
    rw [splice_all Z C (by rw [LC.out, LZ.out]), ← HC.out] at this
    exact this
  have HR2 := hid hR2
  clear HG2 hmk LZ LC HC hg hpos hone hb0 hR2
  have HX := hid hxc
  clear hxc
  obtain ⟨B, hB⟩ : ∃ B, xs.all ws = B := ⟨_, rfl⟩
  have HB := hid hB
  clear hB
  go_loop [4, 5] (fun t i => ∃ k : Nat, k ≤ xs.length ∧ i = .int .i64 k ∧ t = .bool ((xs.take k).all ws)) (fun _ i => xs.length - (intOf i).toNat)
  case atStart => exact ⟨0, Nat.zero_le _, rfl, rfl⟩
  case round =>
    obtain ⟨k, hk, rfl, rfl⟩ := hrel
    by_cases hlt : k < xs.length
    · obtain ⟨v, hv⟩ := get_of_lt hlt
      have hc : w2.cell? ⟨w.heap.size, k, none⟩ = some (.int .u8 v) := by rw [HR2.out.cell]; simp [hv]
      have HV := hid hv
      clear hv
      rcases hb : ws v with _ | _
      · go_wp2_with (go_at_call 8; refine (aws_any _ _).mono ?_; rintro e w' ⟨rfl, hw⟩; subst hw)
        go_round
        case rel => exact ⟨k + 1, by omega, by go_num, by rw [all_take_succ HV.out, hb, Bool.and_false]⟩
        case measure => simp [intOf]; omega
      · go_wp2_with (go_at_call 8; refine (aws_any _ _).mono ?_; rintro e w' ⟨rfl, hw⟩; subst hw)
        go_round
        case rel => exact ⟨k + 1, by omega, by go_num, by rw [all_take_succ HV.out, hb, Bool.and_true]⟩
        case measure => simp [intOf]; omega
    · have e1 : (xs.take k).all ws = B := by rw [List.take_of_length_le (by omega)]; exact HB.out
      have kc : Hid (Calls Yba.prog 9 #[.slice (some ⟨w.heap.size, 0, none⟩) xs.length xs.length] w2 fun e w' => e = .returned (.bool B) ∧ w' = w2) := by
        have := space_any w.heap.size xs.length xs w2 hn HR2.out
        rw [HB.out] at this
        exact this
      go_wp2_with (go_at_call 9; refine kc.out.mono ?_; rintro e w' ⟨rfl, hw⟩; subst hw)
      all_goals
        go_loopw [7] (fun i wr => ∃ k : Nat, k ≤ xs.length ∧ i = .int .i64 k ∧ Below w.heap.size w wr ∧ RowAt wr w.heap.size 5 (xs.map (Value.int .u8))) (fun i _ => xs.length - (intOf i).toNat)
        case atStart => exact ⟨0, Nat.zero_le _, rfl, hB2, HR2.out⟩
        case round =>
          obtain ⟨j, hj, rfl, hbr, hrr⟩ := hrel
          by_cases hlj : j < xs.length
          · obtain ⟨v, hv⟩ := get_of_lt hlj
            have hc1 : wr.cell? ⟨w.heap.size, j, none⟩ = some (.int .u8 v) := by rw [hrr.cell]; simp [hv]
            obtain ⟨b, off, rfl, hcw⟩ := HX.out j v hv
            have hc2 := cell_later hbr hcw
            have HRR := hid hrr
            clear hrr hcw hv
            have hj0 : (0 : Int) ≤ (j : Int) := by omega
            have hj1 : (j : Int) < (xs.length : Int) := by omega
            go_wp2
            go_quiet (fail)
            go_wp2
            go_roundw
            case rel => exact ⟨j + 1, by omega, by go_num, below_drewN hbr _, HRR.out.drewN _⟩
            case measure => simp [intOf]; omega
          · go_wp2
            go_ret
            exact ⟨rfl, hbr⟩

/-! ### THE ROW's STEP: WRITTEN OUT: LEAVE IT -/
set_option maxRecDepth 100000 in
theorem lifted (os : Os) (started : os.Started) (H : Type) (enc : TypeId × Value → H) :
    ReturnsInHanded {} Yba.checked os 3 .any (Rows.lawS4892AModelSpec.pre6 enc Yba.prog Yba.f3 Rows.lawS4892AModelRow.domain false) (Rows.lawS4892AModelSpec.post enc Yba.prog Yba.f3 false true false false) := by
  refine returnsInHanded_of_change (C := Yba.checked) own started (by kernel_rfl) Yba.func3
    (ChangeSpec.witness6 (enc := enc) (C := Yba.checked) false ⟨#[], #[.slice none 0 0], []⟩ 8 (by kernel_rfl) (by kernel_rfl) (by kernel_rfl) (by kernel_rfl)) ?_
  intro W base args ds gs before hval0 hW hcnd _
  have hval : ∀ (j : Nat) t v, Yba.f3.params[j]? = some t → args[j]? = some v → Value.okWide Yba.prog W .any base t v := hval0
  have hW' := hW
  obtain ⟨p, q, hA0, hV, rfl, hfz, hnd⟩ := hW
  have hA : DataW.TrodAll enc Yba.prog W 0 (fun _ => true) true Yba.f3.params.toList args.toList ds p := hA0
  rw [Yba.params3] at hA hval
  obtain ⟨v0, vs0, d0, ds0, p0, q0, hargs, rfl, rfl, h0, r0⟩ := trodAll_cons hA
  obtain ⟨rfl, rfl, rfl⟩ := trodAll_nil r0
  obtain rfl : args = #[v0] := by cases args; simp_all
  obtain ⟨rfl, rfl⟩ := trodVars_none hV
  obtain ⟨a0, len0, cap0, rfl⟩ := okWide_slice Yba.underlying22 (hval 0 22 v0 rfl rfl)
  have k0 := h0
  have lt0 : ∀ x ∈ p0, x.block < W.heap.size := by obtain ⟨m, hm⟩ := k0; exact DataW.trod_lt m _ _ _ hm
  obtain ⟨z0, w0⟩ : ∃ zs, IsRow .u8 W a0 len0 cap0 zs := by
    obtain ⟨fuel, hf⟩ := h0
    rcases open_ints Yba.underlying22 Yba.underlying5 (by kernel_rfl) hf with ⟨hcs, _⟩ | ⟨x, l, c, zs, hcs, _, hl, hm, hz, _, hcell, hwz⟩
    · simp [Value.cells] at hcs
      obtain ⟨rfl, rfl, rfl⟩ := hcs
      exact ⟨[], .inl ⟨rfl, rfl, rfl, rfl⟩⟩
    · simp [Value.cells] at hcs
      obtain ⟨rfl, rfl, rfl⟩ := hcs
      exact ⟨zs, .inr ⟨_, rfl, hl, hm, by simpa using hz, hcell, hwz⟩⟩
  clear hA0 hval0
  refine (walk a0 len0 cap0 z0 W w0).mono fun e W' ⟨he, bel⟩ => ?_
  subst he
  exact ⟨_, rfl, _, _, _, [], _, [], hW', trodAll_mk1 (shut_bool Yba.underlying4 _), (trodAll_cons_mk (Below.trod laidOut (by kernel_rfl) (of_decide_eq_true (by kernel_rfl)) k0 bel lt0) trodAll_mk0), rfl, bel.frame _, fun h => by cases h⟩

theorem over : Rows.lawS4892AModelRow.holds Yba.pinned (OpenSpec.ofChange Rows.lawS4892AModelSpec) :=
  OpenClaim.holds_of_wide 3 Yba.f3 rfl rfl rfl rfl rfl rfl rfl ⟨rfl, rfl, rfl, rfl, rfl⟩ rfl rfl rfl rfl rfl (by kernel_rfl) Yba.func3 (by kernel_rfl)
    (of_decide_eq_true (by kernel_rfl)) (by unfold Func.isWrapper; first | (rw [if_pos (by decide +kernel)]; kernel_rfl) | (rw [if_neg (by decide +kernel)]; exact ⟨rfl, rfl⟩))
    (fun os started H enc _ => lifted os started H enc)

/-- ████ THE STATEMENT ████ -/
theorem proved : Rows.LawS4892AModelSaid := over
end Go.Proofs.Ybulkcwhe.lawS4892AModel
