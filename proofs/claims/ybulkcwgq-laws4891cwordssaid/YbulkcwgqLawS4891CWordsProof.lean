import Derived.Test.YbulkcwgqRows
import Derived.WalkKit
import Derived.ProofKit
import Derived.OpenShut
import Derived.ShutString
import Derived.ChangeOld
import Derived.Below
import Derived.Test.YbulkcwgqPlain
namespace Go.Proofs.Ybulkcwgq.lawS4891CWords
open Go.ChangeShapes Go.WideShapes Go.ChangeAt Go.RowKit
open Go.ChangeMaps (open_string shut_string)
set_option linter.unusedVariables false      -- a walk need not use every 'w<i>' (that an integer argument fits its kind)

theorem own : ownKnob Yba.prog.godebug = none := by kernel_rfl


theorem bcell {W w1 : World} (hb : Below W.heap.size W w1) : (∀ b o, b < W.heap.size → w1.cell? ⟨b, o, none⟩ = W.cell? ⟨b, o, none⟩) ∧ (∀ b o, b < W.heap.size → w1.frozen? ⟨b, o, none⟩ = W.frozen? ⟨b, o, none⟩) :=
  ⟨fun b o h => hb.cell (p := ⟨b, o, none⟩) h, fun b o h => hb.frozen (p := ⟨b, o, none⟩) h⟩

/-! ### STEP 1: THE WALK: the Go text returns true. 'Grown w w'': the world has at most new blocks (Derived/RowKit3.lean). Part the cases AHEAD of 'go_enter' where a test parts the walk; take each callee by a contract of your own. -/
theorem walk (a0 : Int) (a1 : Int) (a2 : Int) (a3 : Int) (a4 : Int) (a5 : Int) (a6 : Int) (a7 : Int) (w0 : (Lit.int .u64 a0).wf = true) (w1 : (Lit.int .u64 a1).wf = true) (w2 : (Lit.int .u64 a2).wf = true) (w3 : (Lit.int .i64 a3).wf = true) (w4 : (Lit.int .u64 a4).wf = true) (w5 : (Lit.int .u64 a5).wf = true) (w6 : (Lit.int .u64 a6).wf = true) (w7 : (Lit.int .i64 a7).wf = true) (w : World) :
    Calls Yba.prog 3 #[.int .u64 a0, .int .u64 a1, .int .u64 a2, .int .i64 a3, .int .u64 a4, .int .u64 a5, .int .u64 a6, .int .i64 a7] w fun e w' => e = .returned (.bool true) ∧ Below w.heap.size w w' := by
  have b3 := bd_i64 w3
  have b7 := bd_i64 w7
  obtain ⟨M, hM⟩ : ∃ M, M4 a0 a1 a2 a3 a4 a5 a6 a7 = M := ⟨_, rfl⟩
  obtain ⟨m0, m1⟩ : -1 ≤ M ∧ M ≤ 1 := hM ▸ M4_bd a0 a1 a2 a3 a4 a5 a6 a7
  have e1 : cmp4 a0 a1 a2 (IntKind.u64.wrap a3) a4 a5 a6 (IntKind.u64.wrap a7) = M := (cmp4_signed _ _ _ _ _ _ _ _ b3 b7).trans hM
  have e2 : cmp4 a4 a5 a6 (IntKind.u64.wrap a7) a0 a1 a2 (IntKind.u64.wrap a3) = -M := (cmp4_signed _ _ _ _ _ _ _ _ b7 b3).trans ((M4_swap _ _ _ _ _ _ _ _).trans (by rw [hM]))
  have e3 : cmp4 a0 a1 a2 (IntKind.u64.wrap a3) a0 a1 a2 (IntKind.u64.wrap a3) = 0 := (cmp4_signed _ _ _ _ _ _ _ _ b3 b3).trans (M4_self _ _ _ _)
  have e4 : cmp4 a4 a5 a6 (IntKind.u64.wrap a7) a4 a5 a6 (IntKind.u64.wrap a7) = 0 := (cmp4_signed _ _ _ _ _ _ _ _ b7 b7).trans (M4_self _ _ _ _)
  have e5 := M4_eql a0 a1 a2 a3 a4 a5 a6 a7 b3 b7
  rw [hM] at e5
  have hX := wrap_is_word a3
  have hY := wrap_is_word a7
  have k0 : Hid (∀ w, Calls Yba.prog 5 #[.int .i64 a3, .agg #[.int .u64 a0, .int .u64 a1, .int .u64 a2], .int .i64 a7, .agg #[.int .u64 a4, .int .u64 a5, .int .u64 a6]] w fun e w' => e = .returned (.int .i64 M) ∧ Below w.heap.size w w') := fun w => by
    rw [← hM]; exact model_any a0 a1 a2 a3 a4 a5 a6 a7 w
  obtain ⟨x3, hx3⟩ : ∃ x, IntKind.u64.wrap a3 = x := ⟨_, rfl⟩
  obtain ⟨y3, hy3⟩ : ∃ x, IntKind.u64.wrap a7 = x := ⟨_, rfl⟩
  rw [hx3] at e1 e2 e3 e5 hX
  rw [hy3] at e1 e2 e4 e5 hY
  have k1 : Hid (∀ w, Calls Yba.prog 6 #[.agg #[.int .u64 a0, .int .u64 a1, .int .u64 a2, .int .u64 x3], .agg #[.int .u64 a4, .int .u64 a5, .int .u64 a6, .int .u64 y3]] w fun e w' => e = .returned (.int .i64 (M)) ∧ Below w.heap.size w w') := fun w => by
    have e := e1
    rw [← e]; exact cmp_any _ _ _ _ _ _ _ _ hX hY w
  have k2 : Hid (∀ w, Calls Yba.prog 6 #[.agg #[.int .u64 a4, .int .u64 a5, .int .u64 a6, .int .u64 y3], .agg #[.int .u64 a0, .int .u64 a1, .int .u64 a2, .int .u64 x3]] w fun e w' => e = .returned (.int .i64 (-M)) ∧ Below w.heap.size w w') := fun w => by
    have e := e2
    rw [← e]; exact cmp_any _ _ _ _ _ _ _ _ hY hX w
  have k3 : Hid (∀ w, Calls Yba.prog 6 #[.agg #[.int .u64 a0, .int .u64 a1, .int .u64 a2, .int .u64 x3], .agg #[.int .u64 a0, .int .u64 a1, .int .u64 a2, .int .u64 x3]] w fun e w' => e = .returned (.int .i64 (0)) ∧ Below w.heap.size w w') := fun w => by
    have e := e3
    rw [← e]; exact cmp_any _ _ _ _ _ _ _ _ hX hX w
  have k4 : Hid (∀ w, Calls Yba.prog 6 #[.agg #[.int .u64 a4, .int .u64 a5, .int .u64 a6, .int .u64 y3], .agg #[.int .u64 a4, .int .u64 a5, .int .u64 a6, .int .u64 y3]] w fun e w' => e = .returned (.int .i64 (0)) ∧ Below w.heap.size w w') := fun w => by
    have e := e4
    rw [← e]; exact cmp_any _ _ _ _ _ _ _ _ hY hY w
  have heq : ∀ w, (Op.equalIn 9999 23 (.agg #[.int .u64 a0, .int .u64 a1, .int .u64 a2, .int .u64 x3]) (.agg #[.int .u64 a4, .int .u64 a5, .int .u64 a6, .int .u64 y3])).run Yba.prog w = .ok (M == 0) w := fun w => by rw [← e5]; exact eq_words 9997 _ _ _ _ _ _ _ _ w
  clear e1 e2 e3 e4 e5 hM hX hY
  go_enter Yba.func3, Yba.ntmps3
  go_wp2_with fail
  refine (k0.out _).mono ?_
  rintro e w1 ⟨rfl, hb1⟩
  obtain ⟨hc1, hf1⟩ := bcell hb1
  have hz1 : w.heap.size + 1 < w1.heap.size := by have := hb1.size; simp at this; omega
  have hz1' : w.heap.size < w1.heap.size := by omega
  go_wp2_with fail
  refine (k1.out _).mono ?_
  rintro e w2 ⟨rfl, hb2⟩
  obtain ⟨hc2, hf2⟩ := bcell hb2
  have hz2 : w.heap.size + 1 < w2.heap.size := by have := hb2.size; omega
  have hz2' : w.heap.size < w2.heap.size := by omega
  go_wp2_with fail
  refine (k2.out _).mono ?_
  rintro e w3 ⟨rfl, hb3⟩
  obtain ⟨hc3, hf3⟩ := bcell hb3
  have hz3 : w.heap.size + 1 < w3.heap.size := by have := hb3.size; omega
  have hz3' : w.heap.size < w3.heap.size := by omega
  go_wp2_with (first
    | (go_at_call_of 6 (Value.int .u64 x3); refine (k3.out _).mono ?_; rintro e w4 ⟨rfl, hb4⟩; obtain ⟨hc4, hf4⟩ := bcell hb4; have hz4 : w.heap.size + 1 < w4.heap.size := by { have := hb4.size; omega }; have hz4' : w.heap.size < w4.heap.size := by omega)
    | (go_at_call_of 6 (Value.int .u64 y3); refine (k4.out _).mono ?_; rintro e w5 ⟨rfl, hb5⟩))
  all_goals
    go_ret
    refine ⟨rfl, ?_⟩
    have hz0 : w.heap.size ≤ w1.heap.size := by omega
    exact (((((((Below.refl _ w).alloc (Nat.le_refl _) _).alloc (by simp) _).trans (hb1.mono (by simp; omega))).trans (hb2.mono hz0)).trans (hb3.mono (by omega))).trans (hb4.mono (by omega))).trans (hb5.mono (by omega))

/-! ### THE ROW's STEP: WRITTEN OUT: LEAVE IT -/
set_option maxRecDepth 100000 in
theorem lifted (os : Os) (started : os.Started) (H : Type) (enc : TypeId × Value → H) :
    ReturnsInHanded {} Yba.checked os 3 .any (Rows.lawS4891CWordsSpec.pre6 enc Yba.prog Yba.f3 Rows.lawS4891CWordsRow.domain false) (Rows.lawS4891CWordsSpec.post enc Yba.prog Yba.f3 false true false false) := by
  refine returnsInHanded_of_change (C := Yba.checked) own started (by kernel_rfl) Yba.func3
    (ChangeSpec.witness6 (enc := enc) (C := Yba.checked) false ⟨#[], #[.int .u64 0, .int .u64 0, .int .u64 0, .int .i64 0, .int .u64 0, .int .u64 0, .int .u64 0, .int .i64 0], []⟩ 8 (by kernel_rfl) (by kernel_rfl) (by kernel_rfl) (by kernel_rfl)) ?_
  intro W base args ds gs before hval0 hW hcnd _
  have hval : ∀ (j : Nat) t v, Yba.f3.params[j]? = some t → args[j]? = some v → Value.okWide Yba.prog W .any base t v := hval0
  have hW' := hW
  obtain ⟨p, q, hA0, hV, rfl, hfz, hnd⟩ := hW
  have hA : DataW.TrodAll enc Yba.prog W 0 (fun _ => true) true Yba.f3.params.toList args.toList ds p := hA0
  rw [Yba.params3] at hA hval
  obtain ⟨v0, vs0, d0, ds0, p0, q0, hargs, rfl, rfl, h0, r0⟩ := trodAll_cons hA
  obtain ⟨v1, vs1, d1, ds1, p1, q1, rfl, rfl, rfl, h1, r1⟩ := trodAll_cons r0
  obtain ⟨v2, vs2, d2, ds2, p2, q2, rfl, rfl, rfl, h2, r2⟩ := trodAll_cons r1
  obtain ⟨v3, vs3, d3, ds3, p3, q3, rfl, rfl, rfl, h3, r3⟩ := trodAll_cons r2
  obtain ⟨v4, vs4, d4, ds4, p4, q4, rfl, rfl, rfl, h4, r4⟩ := trodAll_cons r3
  obtain ⟨v5, vs5, d5, ds5, p5, q5, rfl, rfl, rfl, h5, r5⟩ := trodAll_cons r4
  obtain ⟨v6, vs6, d6, ds6, p6, q6, rfl, rfl, rfl, h6, r6⟩ := trodAll_cons r5
  obtain ⟨v7, vs7, d7, ds7, p7, q7, rfl, rfl, rfl, h7, r7⟩ := trodAll_cons r6
  obtain ⟨rfl, rfl, rfl⟩ := trodAll_nil r7
  obtain rfl : args = #[v0, v1, v2, v3, v4, v5, v6, v7] := by cases args; simp_all
  obtain ⟨rfl, rfl⟩ := trodVars_none hV
  obtain ⟨a0, rfl, rfl, rfl, w0⟩ := open_int Yba.underlying22 (hval 0 22 v0 rfl rfl) h0
  obtain ⟨a1, rfl, rfl, rfl, w1⟩ := open_int Yba.underlying22 (hval 1 22 v1 rfl rfl) h1
  obtain ⟨a2, rfl, rfl, rfl, w2⟩ := open_int Yba.underlying22 (hval 2 22 v2 rfl rfl) h2
  obtain ⟨a3, rfl, rfl, rfl, w3⟩ := open_int Yba.underlying2 (hval 3 2 v3 rfl rfl) h3
  obtain ⟨a4, rfl, rfl, rfl, w4⟩ := open_int Yba.underlying22 (hval 4 22 v4 rfl rfl) h4
  obtain ⟨a5, rfl, rfl, rfl, w5⟩ := open_int Yba.underlying22 (hval 5 22 v5 rfl rfl) h5
  obtain ⟨a6, rfl, rfl, rfl, w6⟩ := open_int Yba.underlying22 (hval 6 22 v6 rfl rfl) h6
  obtain ⟨a7, rfl, rfl, rfl, w7⟩ := open_int Yba.underlying2 (hval 7 2 v7 rfl rfl) h7
  clear hA0 hval0
  simp only [List.append_nil] at hW'
  refine (walk a0 a1 a2 a3 a4 a5 a6 a7 w0 w1 w2 w3 w4 w5 w6 w7 W).mono fun e W' ⟨he, hg⟩ => ?_
  subst he
  exact ⟨_, rfl, _, _, _, [], _, [], hW', trodAll_mk1 (shut_bool Yba.underlying4 _), (trodAll_cons_mk (shut_int Yba.underlying22 w0) (trodAll_cons_mk (shut_int Yba.underlying22 w1) (trodAll_cons_mk (shut_int Yba.underlying22 w2) (trodAll_cons_mk (shut_int Yba.underlying2 w3) (trodAll_cons_mk (shut_int Yba.underlying22 w4) (trodAll_cons_mk (shut_int Yba.underlying22 w5) (trodAll_cons_mk (shut_int Yba.underlying22 w6) (trodAll_cons_mk (shut_int Yba.underlying2 w7) trodAll_mk0)))))))), rfl, hg.frame _, fun h => by cases h⟩

theorem over : Rows.lawS4891CWordsRow.holds Yba.pinned (OpenSpec.ofChange Rows.lawS4891CWordsSpec) :=
  OpenClaim.holds_of_wide 3 Yba.f3 rfl rfl rfl rfl rfl rfl rfl ⟨rfl, rfl, rfl, rfl, rfl⟩ rfl rfl rfl rfl rfl (by kernel_rfl) Yba.func3 (by kernel_rfl)
    (of_decide_eq_true (by kernel_rfl)) (by unfold Func.isWrapper; first | (rw [if_pos (by decide +kernel)]; kernel_rfl) | (rw [if_neg (by decide +kernel)]; exact ⟨rfl, rfl⟩))
    (fun os started H enc _ => lifted os started H enc)

/-- ████ THE STATEMENT ████ -/
theorem proved : Rows.LawS4891CWordsSaid :=
  over
end Go.Proofs.Ybulkcwgq.lawS4891CWords
