import Derived.Test.YbulkcwheKit
import Derived.Laws.Twins
import Derived.Laws.Externs
import Derived.LaidEqlPtr
namespace Go.Proofs.Ybulkcwhe
open Go.RowKit

/-- math/bits.Add64: the model's own entry. -/
theorem add64_run (x y c : Int) (hx : 0 ≤ x) (hy : 0 ≤ y) (hc0 : 0 ≤ c) (hc : c ≤ 1) (w : World) : (callFunc 12 #[.int .u64 x, .int .u64 y, .int .u64 c]).run Yba.prog w =
    .ok (.value (.tuple #[.int .u64 ((x + y + c) % 18446744073709551616), .int .u64 ((x + y + c) / 18446744073709551616)])) w := by
  obtain ⟨x, rfl⟩ := Int.eq_ofNat_of_zero_le hx
  obtain ⟨y, rfl⟩ := Int.eq_ofNat_of_zero_le hy
  obtain ⟨c, rfl⟩ := Int.eq_ofNat_of_zero_le hc0
  rw [run_callFunc_extern Yba.func12 (by kernel_rfl) (by kernel_rfl) (by kernel_rfl) (e := add64Entry) (by kernel_rfl), run_add64 x y c (by omega) (by omega) (by omega) (by omega)]
  simp only [Result.andThen]
theorem add64_run0 (x y : Int) (hx : 0 ≤ x) (hy : 0 ≤ y) (w : World) : (callFunc 12 #[.int .u64 x, .int .u64 y, .int .u64 0]).run Yba.prog w =
    .ok (.value (.tuple #[.int .u64 ((x + y) % 18446744073709551616), .int .u64 ((x + y) / 18446744073709551616)])) w := by
  simpa using add64_run x y 0 hx hy (Int.le_refl 0) (by decide) w

theorem run_neq_ptr_same {P : Program} (w : World) {tp te : TypeId} {j : TypeInfo} (a : Addr) (hp : P.underlying tp = some (.pointer te)) (hte : P.info? te = some j) :
    (binOp .neq tp (.pointer (some a)) (.pointer (some a))).run P w = .ok (.bool false) w := by
  have h : ∀ d : Nat, (Op.equalIn (d + 1) tp (.pointer (some a)) (.pointer (some a))).run P w = .ok true w := fun d => by
    simp [Op.equalIn, run_underlying hp, sizeOf, typeInfo, hte, run_sameAddr_same]
  simp only [binOp]
  simp [Op.equal, Op.maxDepth, h 9999]
theorem run_neq_ptr_other {P : Program} (w : World) {tp te : TypeId} {j : TypeInfo} {a b : Addr} {ca cb : Array Value} {ta tb : TypeId} (hp : P.underlying tp = some (.pointer te)) (hte : P.info? te = some j) (hsz : j.size ≠ 0)
    (hne : a ≠ b) (ha : w.heap[a.block]? = some (.cells ca ta (0, 0))) (hb : w.heap[b.block]? = some (.cells cb tb (0, 0))) :
    (binOp .neq tp (.pointer (some a)) (.pointer (some b))).run P w = .ok (.bool true) w := by
  have h : ∀ d : Nat, (Op.equalIn (d + 1) tp (.pointer (some a)) (.pointer (some b))).run P w = .ok false w := fun d => by
    simp [Op.equalIn, run_underlying hp, sizeOf, typeInfo, hte, hsz, run_sameAddr_other w hne ha hb]
  simp only [binOp]
  simp [Op.equal, Op.maxDepth, h 9999]
theorem info41 : (Yba.prog.info? 41).map (fun i => (i.zero, i.size, i.bytes)) = some (some (.int .u64 0), 1, 8) := by kernel_rfl
theorem info68 : (Yba.prog.info? 68).map (fun i => i.size) = some 2 := by kernel_rfl
theorem neq_words_same (a : Addr) (w : World) : (binOp .neq 99 (.pointer (some a)) (.pointer (some a))).run Yba.prog w = .ok (.bool false) w := by
  obtain ⟨i0, hi, _, _, _⟩ := info_parts info41
  exact run_neq_ptr_same w a Yba.underlying99 hi
theorem neq_words_other {g g' o o' : Nat} {vs vs' : List Value} (w : World) (hne : g ≠ g') (h : RowAt w g 41 vs) (h' : RowAt w g' 41 vs') : (binOp .neq 99 (.pointer (some ⟨g, o, none⟩)) (.pointer (some ⟨g', o', none⟩))).run Yba.prog w = .ok (.bool true) w := by
  obtain ⟨i0, hi, _, hs, _⟩ := info_parts info41
  exact run_neq_ptr_other w Yba.underlying99 hi (by omega) (fun e => hne (congrArg Addr.block e)) h h'
theorem setCell_drewN (w : World) (p : Addr) (v : Value) (n : Nat) : (w.setCell p v).drewN n = (w.drewN n).setCell p v := rfl
theorem drewN_size (w : World) (n : Nat) : (w.drewN n).heap.size = w.heap.size := rfl

/-- math/big.addVV enters addVV_g. -/
theorem addVV_twin (args : Array Value) (w : World) : (callFunc 46 args).run Yba.prog w = .ok (.enter 26 args) w :=
  run_callFunc_twin (twin := Yba.f26.name) Yba.func46 (by kernel_rfl) (by kernel_rfl) (by kernel_rfl) (by kernel_rfl) Yba.func26 (by kernel_rfl) (by kernel_rfl) (by kernel_rfl) args w

set_option maxHeartbeats 400000 in
/-- math/bits.Add. -/
theorem bitsAdd_any (x y c : Int) (hx : 0 ≤ x) (hy : 0 ≤ y) (hc0 : 0 ≤ c) (hc : c ≤ 1) (w : World) :
    Calls Yba.prog 48 #[.int .u64 x, .int .u64 y, .int .u64 c] w fun e w' => e = .returned (.tuple #[.int .u64 ((x + y + c) % 18446744073709551616), .int .u64 ((x + y + c) / 18446744073709551616)]) ∧ w' = w := by
  obtain ⟨s, hs⟩ : ∃ s, (x + y + c) % 18446744073709551616 = s := ⟨_, rfl⟩
  obtain ⟨d, hd⟩ : ∃ d, (x + y + c) / 18446744073709551616 = d := ⟨_, rfl⟩
  have h := fun w => add64_run x y c hx hy hc0 hc w
  rw [hs, hd] at h ⊢
  clear hs hd
  go_enter Yba.func48, Yba.ntmps48
  go_wp2
  go_ret2
  exact ⟨rfl, rfl⟩
end Go.Proofs.Ybulkcwhe

