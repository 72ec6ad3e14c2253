import Derived.Test.YbulkcwgqRows
import Derived.WalkKit
import Derived.ProofKit
import Derived.OpenShut
import Derived.ShutString
import Derived.ChangeOld
import Derived.Below
import Derived.Test.YbulkcwgqNew
namespace Go.Proofs.Ybulkcwgq.lawS4891CInt64
open Go.ChangeShapes Go.WideShapes Go.ChangeAt Go.RowKit
open Go.ChangeMaps (open_string shut_string)
set_option linter.unusedVariables false      -- a walk need not use every 'w<i>' (that an integer argument fits its kind)

theorem own : ownKnob Yba.prog.godebug = none := by kernel_rfl

/-! ### STEP 1: THE WALK: the Go text returns true. 'Grown w w'': the world has at most new blocks (Derived/RowKit3.lean). Part the cases AHEAD of 'go_enter' where a test parts the walk; take each callee by a contract of your own. -/
theorem walk (a0 : Int) (a1 : Int) (w0 : (Lit.int .i64 a0).wf = true) (w1 : (Lit.int .i64 a1).wf = true) (w : World) :
    Calls Yba.prog 4 #[.int .i64 a0, .int .i64 a1] w fun e w' => e = .returned (.bool true) ∧ Below w.heap.size w w' := by
  have b0 := bd_i64 w0
  have b1 := bd_i64 w1
  have e1 := cmp4_new a0 a1 b0 b1
  obtain ⟨M, hM⟩ : ∃ M, cmp1 a0 a1 0 = M := ⟨_, rfl⟩
  rw [hM] at e1
  have k0 : Hid (∀ w, Calls Yba.prog 8 #[.int .i64 a0, .int .i64 a1] w fun e w' => e = .returned (.int .i64 M) ∧ w' = w) := fun w => by
    rw [← hM]; exact compare_any a0 a1 w
  have k1 : Hid (∀ w, Calls Yba.prog 6 #[.agg #[.int .u64 (IntKind.u64.wrap a0), .int .u64 (hiW a0), .int .u64 (hiW a0), .int .u64 (hiW a0)], .agg #[.int .u64 (IntKind.u64.wrap a1), .int .u64 (hiW a1), .int .u64 (hiW a1), .int .u64 (hiW a1)]] w fun e w' => e = .returned (.int .i64 M) ∧ Below w.heap.size w w') := fun w => by
    rw [← e1]; exact cmp_any _ _ _ _ _ _ _ _ (hiW_word _) (hiW_word _) w
  clear e1 hM
  go_enter Yba.func4, Yba.ntmps4
  go_wp2_with fail
  refine (new_any a0 _).mono ?_
  rintro e w2 ⟨rfl, hb2⟩
  go_wp2_with fail
  refine (new_any a1 _).mono ?_
  rintro e w3 ⟨rfl, hb3⟩
  go_wp2_with fail
  refine (k1.out _).mono ?_
  rintro e w4 ⟨rfl, hb4⟩
  go_wp2_with fail
  refine (k0.out _).mono ?_
  rintro e w5 ⟨rfl, h5⟩
  subst h5
  go_wp2
  go_ret
  have s2 := hb2.size
  have s3 := hb3.size
  exact ⟨rfl, (hb2.trans (hb3.mono s2)).trans (hb4.mono (by omega))⟩

/-! ### THE ROW's STEP: WRITTEN OUT: LEAVE IT -/
set_option maxRecDepth 100000 in
theorem lifted (os : Os) (started : os.Started) (H : Type) (enc : TypeId × Value → H) :
    ReturnsInHanded {} Yba.checked os 4 .any (Rows.lawS4891CInt64Spec.pre6 enc Yba.prog Yba.f4 Rows.lawS4891CInt64Row.domain false) (Rows.lawS4891CInt64Spec.post enc Yba.prog Yba.f4 false true false false) := by
  refine returnsInHanded_of_change (C := Yba.checked) own started (by kernel_rfl) Yba.func4
    (ChangeSpec.witness6 (enc := enc) (C := Yba.checked) false ⟨#[], #[.int .i64 0, .int .i64 0], []⟩ 8 (by kernel_rfl) (by kernel_rfl) (by kernel_rfl) (by kernel_rfl)) ?_
  intro W base args ds gs before hval0 hW hcnd _
  have hval : ∀ (j : Nat) t v, Yba.f4.params[j]? = some t → args[j]? = some v → Value.okWide Yba.prog W .any base t v := hval0
  have hW' := hW
  obtain ⟨p, q, hA0, hV, rfl, hfz, hnd⟩ := hW
  have hA : DataW.TrodAll enc Yba.prog W 0 (fun _ => true) true Yba.f4.params.toList args.toList ds p := hA0
  rw [Yba.params4] at hA hval
  obtain ⟨v0, vs0, d0, ds0, p0, q0, hargs, rfl, rfl, h0, r0⟩ := trodAll_cons hA
  obtain ⟨v1, vs1, d1, ds1, p1, q1, rfl, rfl, rfl, h1, r1⟩ := trodAll_cons r0
  obtain ⟨rfl, rfl, rfl⟩ := trodAll_nil r1
  obtain rfl : args = #[v0, v1] := by cases args; simp_all
  obtain ⟨rfl, rfl⟩ := trodVars_none hV
  obtain ⟨a0, rfl, rfl, rfl, w0⟩ := open_int Yba.underlying2 (hval 0 2 v0 rfl rfl) h0
  obtain ⟨a1, rfl, rfl, rfl, w1⟩ := open_int Yba.underlying2 (hval 1 2 v1 rfl rfl) h1
  clear hA0 hval0
  simp only [List.append_nil] at hW'
  refine (walk a0 a1 w0 w1 W).mono fun e W' ⟨he, hg⟩ => ?_
  subst he
  exact ⟨_, rfl, _, _, _, [], _, [], hW', trodAll_mk1 (shut_bool Yba.underlying4 _), (trodAll_cons_mk (shut_int Yba.underlying2 w0) (trodAll_cons_mk (shut_int Yba.underlying2 w1) trodAll_mk0)), rfl, hg.frame _, fun h => by cases h⟩

theorem over : Rows.lawS4891CInt64Row.holds Yba.pinned (OpenSpec.ofChange Rows.lawS4891CInt64Spec) :=
  OpenClaim.holds_of_wide 4 Yba.f4 rfl rfl rfl rfl rfl rfl rfl ⟨rfl, rfl, rfl, rfl, rfl⟩ rfl rfl rfl rfl rfl (by kernel_rfl) Yba.func4 (by kernel_rfl)
    (of_decide_eq_true (by kernel_rfl)) (by unfold Func.isWrapper; first | (rw [if_pos (by decide +kernel)]; kernel_rfl) | (rw [if_neg (by decide +kernel)]; exact ⟨rfl, rfl⟩))
    (fun os started H enc _ => lifted os started H enc)

/-- ████ THE STATEMENT ████ -/
theorem proved : Rows.LawS4891CInt64Said :=
  over
end Go.Proofs.Ybulkcwgq.lawS4891CInt64
