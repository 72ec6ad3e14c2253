import Derived.Test.YbulkcwheRows
import Derived.WalkKit
import Derived.ProofKit
import Derived.OpenShut
import Derived.ChangeOld
import Derived.Below
import Derived.Test.YbulkcwheOpenC
namespace Go.Proofs.Ybulkcwhe.lawS4892CHeldBy
open Go.ChangeShapes Go.WideShapes Go.ChangeAt Go.RowKit
set_option linter.unusedVariables false

theorem own : ownKnob Yba.prog.godebug = none := by kernel_rfl
theorem laidOut : laidOutB Yba.prog = true := by kernel_rfl

/-- The Go text returns true and writes nothing that was there. -/
theorem walk (ha : Option Addr) (hc : Nat) (last : Bool) (oa : Option Addr) (oc : Nat) (fr tz : Int) (hs0 : List Bool) (os0 : List Int) (w : World) (A : Arg w ha oa fr tz hs0 os0) (hm : hs0.length ≤ maxLen) (om : os0.length ≤ maxLen) :
    Calls Yba.prog 7 #[.agg #[.slice ha hs0.length hc, .bool last, .slice oa os0.length oc, .int .u16 fr, .int .u16 tz]] w fun e w' => e = .returned (.bool true) ∧ Below w.heap.size w w' := by
  unfold maxLen at hm om
  by_cases h1 : hs0.length ≤ 1024
  · by_cases h2 : os0.length ≤ 1024
    · exact heldBy_walk ha hc last oa oc fr tz hs0 os0 w A h1 h2
    · obtain ⟨n, hn⟩ : ∃ n, hs0.length = n := ⟨_, rfl⟩
      obtain ⟨l, hll⟩ : ∃ l, os0.length = l := ⟨_, rfl⟩
      rw [hn] at h1 hm ⊢
      rw [hll] at h2 om ⊢
      clear A hn hll
      have g1 : ¬ (1024 : Int) < (n : Int) := by omega
      have g1' : decide ((1024 : Int) < (n : Int)) = false := by simpa using g1
      have g2 : (1024 : Int) < (l : Int) := by omega
      go_enter Yba.func7, Yba.ntmps7
      go_wp2
      go_ret
      exact ⟨rfl, (Below.refl _ w).alloc (Nat.le_refl _) _⟩
  · obtain ⟨n, hn⟩ : ∃ n, hs0.length = n := ⟨_, rfl⟩
    obtain ⟨l, hll⟩ : ∃ l, os0.length = l := ⟨_, rfl⟩
    rw [hn] at h1 hm ⊢
    rw [hll] at om ⊢
    clear A hn hll
    have g1 : (1024 : Int) < (n : Int) := by omega
    have g1' : decide ((1024 : Int) < (n : Int)) = true := by simpa using g1
    go_enter Yba.func7, Yba.ntmps7
    go_wp2
    go_ret
    exact ⟨rfl, (Below.refl _ w).alloc (Nat.le_refl _) _⟩

set_option maxRecDepth 100000 in
theorem lifted (os : Os) (started : os.Started) (H : Type) (enc : TypeId × Value → H) :
    ReturnsInHanded {} Yba.checked os 7 .any (Rows.lawS4892CHeldBySpec.pre6 enc Yba.prog Yba.f7 Rows.lawS4892CHeldByRow.domain false) (Rows.lawS4892CHeldBySpec.post enc Yba.prog Yba.f7 false true false false) := by
  refine returnsInHanded_of_change (C := Yba.checked) own started (by kernel_rfl) Yba.func7
    (ChangeSpec.witness6 (enc := enc) (C := Yba.checked) false ⟨#[], #[.agg #[.slice none 0 0, .bool false, .slice none 0 0, .int .u16 0, .int .u16 0]], []⟩ 8 (by kernel_rfl) (by kernel_rfl) (by kernel_rfl) (by kernel_rfl)) ?_
  intro W base args ds gs before hval0 hW hcnd _
  have hval : ∀ (j : Nat) t v, Yba.f7.params[j]? = some t → args[j]? = some v → Value.okWide Yba.prog W .any base t v := hval0
  have hW' := hW
  obtain ⟨p, q, hA0, hV, rfl, hfz, hnd⟩ := hW
  have hA : DataW.TrodAll enc Yba.prog W 0 (fun _ => true) true Yba.f7.params.toList args.toList ds p := hA0
  rw [Yba.params7] at hA hval
  obtain ⟨v0, vs0, d0, ds0, p0, q0, hargs, rfl, rfl, h0, r0⟩ := trodAll_cons hA
  obtain ⟨rfl, rfl, rfl⟩ := trodAll_nil r0
  obtain rfl : args = #[v0] := by cases args; simp_all
  obtain ⟨rfl, rfl⟩ := trodVars_none hV
  have k0 := h0
  have lt0 : ∀ x ∈ p0, x.block < W.heap.size := by obtain ⟨m, hm⟩ := k0; exact DataW.trod_lt m _ _ _ hm
  obtain ⟨ha, hc, last, oa, oc, fr, tz, hs0, os0, rfl, A, hm, om⟩ := open_run (hval 0 47 v0 rfl rfl) h0
  clear hA0 hval0
  refine (walk ha hc last oa oc fr tz hs0 os0 W A hm om).mono fun e W' ⟨he, bel⟩ => ?_
  subst he
  exact ⟨_, rfl, _, _, _, [], _, [], hW', trodAll_mk1 (shut_bool Yba.underlying4 _), (trodAll_cons_mk (Below.trod laidOut (by kernel_rfl) (of_decide_eq_true (by kernel_rfl)) k0 bel lt0) trodAll_mk0), rfl, bel.frame _, fun h => by cases h⟩

theorem over : Rows.lawS4892CHeldByRow.holds Yba.pinned (OpenSpec.ofChange Rows.lawS4892CHeldBySpec) :=
  OpenClaim.holds_of_wide 7 Yba.f7 rfl rfl rfl rfl rfl rfl rfl ⟨rfl, rfl, rfl, rfl, rfl⟩ rfl rfl rfl rfl rfl (by kernel_rfl) Yba.func7 (by kernel_rfl)
    (of_decide_eq_true (by kernel_rfl)) (by unfold Func.isWrapper; first | (rw [if_pos (by decide +kernel)]; kernel_rfl) | (rw [if_neg (by decide +kernel)]; exact ⟨rfl, rfl⟩))
    (fun os started H enc _ => lifted os started H enc)

/-- ████ THE STATEMENT ████ -/
theorem proved : Rows.LawS4892CHeldBySaid := over
end Go.Proofs.Ybulkcwhe.lawS4892CHeldBy
