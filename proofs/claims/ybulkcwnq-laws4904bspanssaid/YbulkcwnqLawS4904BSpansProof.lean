import Derived.Test.YbulkcwnqRows
import Derived.WalkKit
import Derived.ProofKit
import Derived.OpenShut
import Derived.ChangeOld
import Derived.Below
import Derived.Test.YbulkcwnqOpen
import Derived.Test.YbulkcwnqLaw
namespace Go.Proofs.Ybulkcwnq.lawS4904BSpans
open Go.ChangeShapes Go.WideShapes Go.ChangeAt Go.RowKit

theorem own : ownKnob Yba.prog.godebug = none := by kernel_rfl
theorem laidOut : laidOutB Yba.prog = true := by kernel_rfl

set_option maxRecDepth 20000 in
set_option maxHeartbeats 4000000 in
/-- The Go text returns true and writes nothing that was there. -/
theorem walk (a0 a1 a3 a4 : Option Addr) (c0 c1 c3 c4 : Nat) (ids gaps : List Int) (kraw : Int) (rst : List (Option Addr × Nat × List Int)) (ents : List Int) (w : World) (A : ArgsAt w a0 a1 a3 a4 ids gaps rst ents) (hi : ids.length ≤ maxLen) (hr : rst.length ≤ maxLen) (hk0 : 0 ≤ kraw) (hk1 : kraw ≤ 65535) (hg : gaps.length ≤ maxLen) (he : ents.length ≤ maxLen) :
    Calls Yba.prog 4 #[.slice a0 ids.length c0, .slice a1 gaps.length c1, .int .u16 kraw, .slice a3 rst.length c3, .slice a4 ents.length c4] w fun e w' => e = .returned (.bool true) ∧ Below w.heap.size w w' := by
  by_cases h0 : ids.length ≤ 2048
  · by_cases h1 : rst.length ≤ 1024
    · exact law_any a0 a1 a3 a4 c0 c1 c3 c4 ids gaps kraw rst ents w A h0 h1 hk0 hk1 hg he
    · unfold maxLen at hi hr hg he
      have g0 : decide ((2048 : Int) < (ids.length : Int)) = false := decide_eq_false (by omega)
      have g1 : (1024 : Int) < (rst.length : Int) := by omega
      clear A
      go_enter Yba.func4, Yba.ntmps4
      go_wp2
      go_ret
      exact ⟨rfl, Below.refl _ _⟩
  · unfold maxLen at hi hr hg he
    have g0 : (2048 : Int) < (ids.length : Int) := by omega
    have g0' : decide ((2048 : Int) < (ids.length : Int)) = true := decide_eq_true g0
    clear A
    go_enter Yba.func4, Yba.ntmps4
    go_wp2
    go_ret
    exact ⟨rfl, Below.refl _ _⟩

set_option maxRecDepth 100000 in
theorem lifted (os : Os) (started : os.Started) (H : Type) (enc : TypeId × Value → H) :
    ReturnsInHanded {} Yba.checked os 4 .any (Rows.lawS4904BSpansSpec.pre6 enc Yba.prog Yba.f4 Rows.lawS4904BSpansRow.domain false) (Rows.lawS4904BSpansSpec.post enc Yba.prog Yba.f4 false true false false) := by
  refine returnsInHanded_of_change (C := Yba.checked) own started (by kernel_rfl) Yba.func4
    (ChangeSpec.witness6 (enc := enc) (C := Yba.checked) false ⟨#[], #[.slice none 0 0, .slice none 0 0, .int .u16 0, .slice none 0 0, .slice none 0 0], []⟩ 8 (by kernel_rfl) (by kernel_rfl) (by kernel_rfl) (by kernel_rfl)) ?_
  intro W base args ds gs before hval0 hW hcnd _
  have hval : ∀ (j : Nat) t v, Yba.f4.params[j]? = some t → args[j]? = some v → Value.okWide Yba.prog W .any base t v := hval0
  have hW' := hW
  obtain ⟨p, q, hA0, hV, rfl, hfz, hnd⟩ := hW
  have hA : DataW.TrodAll enc Yba.prog W 0 (fun _ => true) true Yba.f4.params.toList args.toList ds p := hA0
  rw [Yba.params4] at hA hval
  obtain ⟨v0, vs0, d0, ds0, p0, q0, hargs, rfl, rfl, h0, r0⟩ := trodAll_cons hA
  obtain ⟨v1, vs1, d1, ds1, p1, q1, rfl, rfl, rfl, h1, r1⟩ := trodAll_cons r0
  obtain ⟨v2, vs2, d2, ds2, p2, q2, rfl, rfl, rfl, h2, r2⟩ := trodAll_cons r1
  obtain ⟨v3, vs3, d3, ds3, p3, q3, rfl, rfl, rfl, h3, r3⟩ := trodAll_cons r2
  obtain ⟨v4, vs4, d4, ds4, p4, q4, rfl, rfl, rfl, h4, r4⟩ := trodAll_cons r3
  obtain ⟨rfl, rfl, rfl⟩ := trodAll_nil r4
  obtain rfl : args = #[v0, v1, v2, v3, v4] := by cases args; simp_all
  obtain ⟨rfl, rfl⟩ := trodVars_none hV
  obtain ⟨a0, len0, cap0, rfl⟩ := okWide_slice Yba.underlying22 (hval 0 22 v0 rfl rfl)
  obtain ⟨a1, len1, cap1, rfl⟩ := okWide_slice Yba.underlying22 (hval 1 22 v1 rfl rfl)
  obtain ⟨kraw, rfl, rfl, rfl, w2⟩ := open_int Yba.underlying71 (hval 2 71 v2 rfl rfl) h2
  obtain ⟨a3, len3, cap3, rfl⟩ := okWide_slice Yba.underlying72 (hval 3 72 v3 rfl rfl)
  obtain ⟨a4, len4, cap4, rfl⟩ := okWide_slice Yba.underlying73 (hval 4 73 v4 rfl rfl)
  have k0 := h0
  have k1 := h1
  have k3 := h3
  have k4 := h4
  have lt0 : ∀ x ∈ p0, x.block < W.heap.size := by obtain ⟨m, hm⟩ := k0; exact DataW.trod_lt m _ _ _ hm
  have lt1 : ∀ x ∈ p1, x.block < W.heap.size := by obtain ⟨m, hm⟩ := k1; exact DataW.trod_lt m _ _ _ hm
  have lt3 : ∀ x ∈ p3, x.block < W.heap.size := by obtain ⟨m, hm⟩ := k3; exact DataW.trod_lt m _ _ _ hm
  have lt4 : ∀ x ∈ p4, x.block < W.heap.size := by obtain ⟨m, hm⟩ := k4; exact DataW.trod_lt m _ _ _ hm
  obtain ⟨b0, c0, ids, e0, m0, f0, w0⟩ : ∃ (a : Option Addr) (cap : Nat) (xs : List Int), Value.slice a0 len0 cap0 = .slice a xs.length cap ∧ xs.length ≤ maxLen ∧ (∀ (k : Nat) (v : Int), xs[k]? = some v → ∃ b off, a = some ⟨b, off, none⟩ ∧ W.cell? ⟨b, off + k, none⟩ = some (.int .u8 v)) ∧ ∀ v ∈ xs, (Lit.int .u8 v).wf = true := by
    obtain ⟨m, hm⟩ := h0; exact ints_view Yba.underlying22 Yba.underlying5 cells5 hm
  obtain ⟨b1, c1, gaps, e1, m1, f1, w1⟩ : ∃ (a : Option Addr) (cap : Nat) (xs : List Int), Value.slice a1 len1 cap1 = .slice a xs.length cap ∧ xs.length ≤ maxLen ∧ (∀ (k : Nat) (v : Int), xs[k]? = some v → ∃ b off, a = some ⟨b, off, none⟩ ∧ W.cell? ⟨b, off + k, none⟩ = some (.int .u8 v)) ∧ ∀ v ∈ xs, (Lit.int .u8 v).wf = true := by
    obtain ⟨m, hm⟩ := h1; exact ints_view Yba.underlying22 Yba.underlying5 cells5 hm
  obtain ⟨b4, c4, ents, e4, m4, f4, w4⟩ : ∃ (a : Option Addr) (cap : Nat) (xs : List Int), Value.slice a4 len4 cap4 = .slice a xs.length cap ∧ xs.length ≤ maxLen ∧ (∀ (k : Nat) (v : Int), xs[k]? = some v → ∃ b off, a = some ⟨b, off, none⟩ ∧ W.cell? ⟨b, off + k, none⟩ = some (.int .i16 v)) ∧ ∀ v ∈ xs, (Lit.int .i16 v).wf = true := by
    obtain ⟨m, hm⟩ := h4; exact ints_view Yba.underlying73 Yba.underlying83 cells83 hm
  obtain ⟨b3, c3, rst, e3, m3, f3, g3⟩ : ∃ (a : Option Addr) (cap : Nat) (rst : List (Option Addr × Nat × List Int)), Value.slice a3 len3 cap3 = .slice a rst.length cap ∧ rst.length ≤ maxLen ∧ (∀ (u : Nat) (r : Option Addr × Nat × List Int), rst[u]? = some r → ∃ b off, a = some ⟨b, off, none⟩ ∧ W.cell? ⟨b, off + u, none⟩ = some (.slice r.1 r.2.2.length r.2.1)) ∧
      (∀ (u : Nat) (r : Option Addr × Nat × List Int), rst[u]? = some r → r.2.2.length ≤ maxLen ∧ ∀ (k : Nat) (v : Int), r.2.2[k]? = some v → ∃ b off, r.1 = some ⟨b, off, none⟩ ∧ W.cell? ⟨b, off + k, none⟩ = some (.int .u8 v) ∧ 0 ≤ v ∧ v ≤ 255) := by
    obtain ⟨m, hm⟩ := h3; exact rows_view hm
  have A : ArgsAt W b0 b1 b3 b4 ids gaps rst ents :=
    ⟨fun k v e => by
      obtain ⟨b, o, x1, x2⟩ := f0 k v e
      have := bounds_u8 (w0 v (List.mem_of_getElem? e))
      exact ⟨b, o, x1, x2, this.1, this.2⟩,
     fun k v e => by
      obtain ⟨b, o, x1, x2⟩ := f1 k v e
      have := bounds_u8 (w1 v (List.mem_of_getElem? e))
      exact ⟨b, o, x1, x2, this.1, this.2⟩,
     f3, fun u r e => (g3 u r e).2,
     fun k v e => by
      obtain ⟨b, o, x1, x2⟩ := f4 k v e
      have := bounds_i16 (w4 v (List.mem_of_getElem? e))
      exact ⟨b, o, x1, x2, this.2⟩⟩
  have hb := bounds_u16 w2
  simp only [Value.slice.injEq] at e0 e1 e3 e4
  obtain ⟨rfl, rfl, rfl⟩ := e0
  obtain ⟨rfl, rfl, rfl⟩ := e1
  obtain ⟨rfl, rfl, rfl⟩ := e3
  obtain ⟨rfl, rfl, rfl⟩ := e4
  clear hA0 hval0
  refine (walk _ _ _ _ _ _ _ _ ids gaps kraw rst ents W A m0 m3 hb.1 hb.2 m1 m4).mono fun e W' ⟨he, bel⟩ => ?_
  subst he
  exact ⟨_, rfl, _, _, _, [], _, [], hW', trodAll_mk1 (shut_bool Yba.underlying4 _),
    (trodAll_cons_mk (Below.trod laidOut (by kernel_rfl) (of_decide_eq_true (by kernel_rfl)) k0 bel lt0) (trodAll_cons_mk (Below.trod laidOut (by kernel_rfl) (of_decide_eq_true (by kernel_rfl)) k1 bel lt1) (trodAll_cons_mk (shut_int Yba.underlying71 w2) (trodAll_cons_mk (Below.trod laidOut (by kernel_rfl) (of_decide_eq_true (by kernel_rfl)) k3 bel lt3) (trodAll_cons_mk (Below.trod laidOut (by kernel_rfl) (of_decide_eq_true (by kernel_rfl)) k4 bel lt4) trodAll_mk0))))), rfl, bel.frame _, fun h => by cases h⟩

theorem over : Rows.lawS4904BSpansRow.holds Yba.pinned (OpenSpec.ofChange Rows.lawS4904BSpansSpec) :=
  OpenClaim.holds_of_wide 4 Yba.f4 rfl rfl rfl rfl rfl rfl rfl ⟨rfl, rfl, rfl, rfl, rfl⟩ rfl rfl rfl rfl rfl (by kernel_rfl) Yba.func4 (by kernel_rfl)
    (of_decide_eq_true (by kernel_rfl)) (by unfold Func.isWrapper; first | (rw [if_pos (by decide +kernel)]; kernel_rfl) | (rw [if_neg (by decide +kernel)]; exact ⟨rfl, rfl⟩))
    (fun os started H enc _ => lifted os started H enc)

/-- The statement. -/
theorem proved : Rows.LawS4904BSpansSaid := over
end Go.Proofs.Ybulkcwnq.lawS4904BSpans
