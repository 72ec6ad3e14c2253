import Derived.Test.YbulkcwheRows
import Derived.WalkKit
import Derived.ProofKit
import Derived.OpenShut
import Derived.ShutString
import Derived.ChangeOld
import Derived.Below
import Derived.Test.YbulkcwheSumBB
import Derived.Test.YbulkcwheSumBS
import Derived.Test.YbulkcwheSumSB
import Derived.Test.YbulkcwheSumSS
namespace Go.Proofs.Ybulkcwhe.lawS4892BSum
open Go.ChangeShapes Go.WideShapes Go.ChangeAt Go.RowKit
open Go.ChangeMaps (open_string shut_string)
set_option linter.unusedVariables false      -- a walk need not use every 'w<i>' (that an integer argument fits its kind)

theorem own : ownKnob Yba.prog.godebug = none := by kernel_rfl


theorem word_of {n : Int} (h : (Lit.int .u64 n).wf = true) : Word n := by
  have := bounds_u64 h
  exact ⟨by omega, by omega⟩

set_option maxRecDepth 20000 in
set_option maxHeartbeats 1000000 in
/-- Both are small, and their sum is. -/
theorem sum_small (x0 y0 : Int) (w : World) (a : Word x0) (c : Word y0) (hc : x0 + y0 < 18446744073709551616) :
    Calls Yba.prog 5 #[.int .u64 x0, .int .u64 0, .bool false, .int .u64 y0, .int .u64 0, .bool false] w fun e w' => e = .returned (.bool true) ∧ Below w.heap.size w w' := by
  have kx := hid (fun w => num_small x0 w)
  have ky := hid (fun w => num_small y0 w)
  have kp := hid (fun w => plus_small x0 y0 w a c hc)
  obtain ⟨s, hs⟩ : ∃ s, x0 + y0 = s := ⟨_, rfl⟩
  have h12a : ∀ w, (callFunc 12 #[.int .u64 x0, .int .u64 y0, .int .u64 0]).run Yba.prog w = .ok (.value (.tuple #[.int .u64 s, .int .u64 0])) w := fun w => by
    have h := add64_run0 x0 y0 a.1 c.1 w
    have h1 := a.1
    have h2 := c.1
    rw [show (x0 + y0) % 18446744073709551616 = x0 + y0 by omega, show (x0 + y0) / 18446744073709551616 = 0 by omega, hs] at h
    exact h
  have h12b : ∀ w, (callFunc 12 #[.int .u64 0, .int .u64 0, .int .u64 0]).run Yba.prog w = .ok (.value (.tuple #[.int .u64 0, .int .u64 0])) w := fun w => by
    have h := add64_run0 0 0 (by omega) (by omega) w
    simpa using h
  rw [hs] at kp
  clear a c hc hs
  go_enter Yba.func5, Yba.ntmps5
  go_wp2_with fail
  refine (kx.out _).mono ?_
  rintro e w1 ⟨rfl, b1⟩
  go_wp2_with fail
  refine (ky.out _).mono ?_
  rintro e w2 ⟨rfl, b2⟩
  have z1 : w1.heap.size < w2.heap.size := by have := b2.size; simp at this; omega
  have bx2 : RowAt w2 w1.heap.size 31 [.int .u64 x0, .pointer none] := (RowAt.new w1 31 [.int .u64 x0, .pointer none]).below b2 (by simp)
  have b12 : Below w1.heap.size w1 w2 := ((Below.refl _ w1).alloc (Nat.le_refl _) _).trans (b2.mono (by simp))
  have q0 : w2.cell? ⟨w1.heap.size, 0, none⟩ = some (.int .u64 x0) := by rw [bx2.cell]; rfl
  have q1 : w2.cell? ⟨w1.heap.size, 1, none⟩ = some (.pointer none) := by rw [bx2.cell]; rfl
  have BX2 := hid bx2
  have B12 := hid b12
  have B1 := hid b1
  clear b2 bx2 b12 b1
  go_wp2_with fail
  refine (kp.out _).mono ?_
  rintro e w3 ⟨rfl, b3⟩
  have b23 : Below w2.heap.size w2 w3 := ((Below.refl _ w2).alloc (Nat.le_refl _) _).trans (b3.mono (by simp))
  have by3 : RowAt w3 w2.heap.size 31 [.int .u64 y0, .pointer none] := (RowAt.new w2 31 [.int .u64 y0, .pointer none]).below b3 (by simp)
  have bx3 := BX2.out.below b23 BX2.out.lt
  have p1 : w3.cell? ⟨w1.heap.size, 1, none⟩ = some (.pointer none) := by rw [bx3.cell]; rfl
  have r1 : w3.cell? ⟨w2.heap.size, 1, none⟩ = some (.pointer none) := by rw [by3.cell]; rfl
  have l1 := bx3.lt
  have l2 := by3.lt
  have BB := hid ((B1.out.trans (B12.out.mono B1.out.size)).trans (b23.mono (by have h1 := B1.out.size; have h2 := B12.out.size; omega)))
  clear b3 b23 by3 bx3 q0 q1 z1
  go_wp2
  go_ret
  exact ⟨rfl, BB.out.alloc BB.out.size _⟩

/-! ### STEP 1: THE WALK: the Go text returns true. 'Grown w w'': the world has at most new blocks (Derived/RowKit3.lean). Part the cases AHEAD of 'go_enter' where a test parts the walk; take each callee by a contract of your own. -/
theorem walk (a0 : Int) (a1 : Int) (a2 : Bool) (a3 : Int) (a4 : Int) (a5 : Bool) (w0 : (Lit.int .u64 a0).wf = true) (w1 : (Lit.int .u64 a1).wf = true) (w3 : (Lit.int .u64 a3).wf = true) (w4 : (Lit.int .u64 a4).wf = true) (w : World) :
    Calls Yba.prog 5 #[.int .u64 a0, .int .u64 a1, .bool a2, .int .u64 a3, .int .u64 a4, .bool a5] w fun e w' => e = .returned (.bool true) ∧ Below w.heap.size w w' := by
  have a := word_of w0
  have b := word_of w1
  have c := word_of w3
  have d := word_of w4
  clear w0 w1 w3 w4
  rcases hx : ((a1 == 0) && !a2) with _ | _
  · rcases hy : ((a4 == 0) && !a5) with _ | _
    · exact sum_big_big a0 a1 a3 a4 a2 a5 w a b c d hx hy
    · simp at hy
      obtain ⟨rfl, rfl⟩ := hy
      exact sum_big_small a0 a1 a3 a2 w a b c hx
  · simp at hx
    obtain ⟨rfl, rfl⟩ := hx
    rcases hy : ((a4 == 0) && !a5) with _ | _
    · exact sum_small_big a0 a3 a4 a5 w a c d hy
    · simp at hy
      obtain ⟨rfl, rfl⟩ := hy
      obtain ⟨h1, h2⟩ := a
      obtain ⟨h3, h4⟩ := c
      by_cases hc : a0 + a3 < 18446744073709551616
      · exact sum_small a0 a3 w ⟨h1, h2⟩ ⟨h3, h4⟩ hc
      · exact sum_carry a0 a3 w ⟨h1, h2⟩ ⟨h3, h4⟩ (by omega)

/-! ### THE ROW's STEP: WRITTEN OUT: LEAVE IT -/
set_option maxRecDepth 100000 in
theorem lifted (os : Os) (started : os.Started) (H : Type) (enc : TypeId × Value → H) :
    ReturnsInHanded {} Yba.checked os 5 .any (Rows.lawS4892BSumSpec.pre6 enc Yba.prog Yba.f5 Rows.lawS4892BSumRow.domain false) (Rows.lawS4892BSumSpec.post enc Yba.prog Yba.f5 false true false false) := by
  refine returnsInHanded_of_change (C := Yba.checked) own started (by kernel_rfl) Yba.func5
    (ChangeSpec.witness6 (enc := enc) (C := Yba.checked) false ⟨#[], #[.int .u64 0, .int .u64 0, .bool false, .int .u64 0, .int .u64 0, .bool false], []⟩ 8 (by kernel_rfl) (by kernel_rfl) (by kernel_rfl) (by kernel_rfl)) ?_
  intro W base args ds gs before hval0 hW hcnd _
  have hval : ∀ (j : Nat) t v, Yba.f5.params[j]? = some t → args[j]? = some v → Value.okWide Yba.prog W .any base t v := hval0
  have hW' := hW
  obtain ⟨p, q, hA0, hV, rfl, hfz, hnd⟩ := hW
  have hA : DataW.TrodAll enc Yba.prog W 0 (fun _ => true) true Yba.f5.params.toList args.toList ds p := hA0
  rw [Yba.params5] at hA hval
  obtain ⟨v0, vs0, d0, ds0, p0, q0, hargs, rfl, rfl, h0, r0⟩ := trodAll_cons hA
  obtain ⟨v1, vs1, d1, ds1, p1, q1, rfl, rfl, rfl, h1, r1⟩ := trodAll_cons r0
  obtain ⟨v2, vs2, d2, ds2, p2, q2, rfl, rfl, rfl, h2, r2⟩ := trodAll_cons r1
  obtain ⟨v3, vs3, d3, ds3, p3, q3, rfl, rfl, rfl, h3, r3⟩ := trodAll_cons r2
  obtain ⟨v4, vs4, d4, ds4, p4, q4, rfl, rfl, rfl, h4, r4⟩ := trodAll_cons r3
  obtain ⟨v5, vs5, d5, ds5, p5, q5, rfl, rfl, rfl, h5, r5⟩ := trodAll_cons r4
  obtain ⟨rfl, rfl, rfl⟩ := trodAll_nil r5
  obtain rfl : args = #[v0, v1, v2, v3, v4, v5] := by cases args; simp_all
  obtain ⟨rfl, rfl⟩ := trodVars_none hV
  obtain ⟨a0, rfl, rfl, rfl, w0⟩ := open_int Yba.underlying28 (hval 0 28 v0 rfl rfl) h0
  obtain ⟨a1, rfl, rfl, rfl, w1⟩ := open_int Yba.underlying28 (hval 1 28 v1 rfl rfl) h1
  obtain ⟨a2, rfl, rfl, rfl⟩ := open_bool Yba.underlying4 (hval 2 4 v2 rfl rfl) h2
  obtain ⟨a3, rfl, rfl, rfl, w3⟩ := open_int Yba.underlying28 (hval 3 28 v3 rfl rfl) h3
  obtain ⟨a4, rfl, rfl, rfl, w4⟩ := open_int Yba.underlying28 (hval 4 28 v4 rfl rfl) h4
  obtain ⟨a5, rfl, rfl, rfl⟩ := open_bool Yba.underlying4 (hval 5 4 v5 rfl rfl) h5
  clear hA0 hval0
  simp only [List.append_nil] at hW'
  refine (walk a0 a1 a2 a3 a4 a5 w0 w1 w3 w4 W).mono fun e W' ⟨he, hg⟩ => ?_
  subst he
  exact ⟨_, rfl, _, _, _, [], _, [], hW', trodAll_mk1 (shut_bool Yba.underlying4 _), (trodAll_cons_mk (shut_int Yba.underlying28 w0) (trodAll_cons_mk (shut_int Yba.underlying28 w1) (trodAll_cons_mk (shut_bool Yba.underlying4 _) (trodAll_cons_mk (shut_int Yba.underlying28 w3) (trodAll_cons_mk (shut_int Yba.underlying28 w4) (trodAll_cons_mk (shut_bool Yba.underlying4 _) trodAll_mk0)))))), rfl, hg.frame _, fun h => by cases h⟩

theorem over : Rows.lawS4892BSumRow.holds Yba.pinned (OpenSpec.ofChange Rows.lawS4892BSumSpec) :=
  OpenClaim.holds_of_wide 5 Yba.f5 rfl rfl rfl rfl rfl rfl rfl ⟨rfl, rfl, rfl, rfl, rfl⟩ rfl rfl rfl rfl rfl (by kernel_rfl) Yba.func5 (by kernel_rfl)
    (of_decide_eq_true (by kernel_rfl)) (by unfold Func.isWrapper; first | (rw [if_pos (by decide +kernel)]; kernel_rfl) | (rw [if_neg (by decide +kernel)]; exact ⟨rfl, rfl⟩))
    (fun os started H enc _ => lifted os started H enc)

/-- ████ THE STATEMENT ████ -/
theorem proved : Rows.LawS4892BSumSaid :=
  over
end Go.Proofs.Ybulkcwhe.lawS4892BSum
