import Derived.Test.YbulkcwnqKit
namespace Go.Proofs.Ybulkcwnq
open Go.RowKit

/-- noValue. -/
def NV : Int := 9223372036854775807
/-- The least of f over the k places from a on. -/
def rmin (f : Nat → Int) (a : Nat) : Nat → Int
  | 0 => NV
  | k + 1 => min (f a) (rmin f (a + 1) k)
theorem rmin_snoc (f : Nat → Int) (a k : Nat) : rmin f a (k + 1) = min (rmin f a k) (f (a + k)) := by
  induction k generalizing a with
  | zero => simp only [rmin, Nat.add_zero]; omega
  | succ k ih =>
    have h := ih (a + 1)
    rw [show rmin f a (k + 1 + 1) = min (f a) (rmin f (a + 1) (k + 1)) from rfl, h, show rmin f a (k + 1) = min (f a) (rmin f (a + 1) k) from rfl, show a + 1 + k = a + (k + 1) by omega]
    omega
theorem rmin_half (f : Nat → Int) (a k : Nat) (h : ∀ i, a ≤ i → i < a + k → f i = min (f (2 * i)) (f (2 * i + 1))) : rmin f (2 * a) (2 * k) = rmin f a k := by
  induction k generalizing a with
  | zero => rfl
  | succ k ih =>
    rw [show 2 * (k + 1) = 2 * k + 1 + 1 by omega]
    have e := ih (a + 1) (fun i h1 h2 => h i (by omega) (by omega))
    rw [show 2 * (a + 1) = 2 * a + 1 + 1 by omega] at e
    show min (f (2 * a)) (min (f (2 * a + 1)) (rmin f (2 * a + 1 + 1) (2 * k))) = min (f a) (rmin f (a + 1) k)
    rw [e, h a (Nat.le_refl _) (by omega)]
    omega
theorem rmin_congr {f g : Nat → Int} {a k : Nat} (h : ∀ i, a ≤ i → i < a + k → f i = g i) : rmin f a k = rmin g a k := by
  induction k generalizing a with
  | zero => rfl
  | succ k ih => show min (f a) _ = min (g a) _; rw [h a (Nat.le_refl _) (by omega), ih (fun i h1 h2 => h i (by omega) (by omega))]

theorem rmin_le (f : Nat → Int) (a k : Nat) : rmin f a k ≤ NV := by
  induction k generalizing a with
  | zero => exact Int.le_refl _
  | succ k ih => have := ih (a + 1); show min (f a) (rmin f (a + 1) k) ≤ NV; omega
/-- A node is the least of its two below. -/
def TreeOK (nodes : List Int) (n : Nat) : Prop := nodes.length = 2 * n ∧ ∀ i, 1 ≤ i → i < n → nodes.getD i 0 = min (nodes.getD (2 * i) 0) (nodes.getD (2 * i + 1) 0)
def nodeAt (nodes : List Int) (i : Nat) : Int := nodes.getD i 0

/-- One round of the climb. -/
theorem climb (nodes : List Int) (n a b : Nat) (v : Int) (hT : TreeOK nodes n) (ha : 1 ≤ a) (hab : a < b) (hb : b ≤ 2 * n) (a' b' : Nat) (v' v'' : Int)
    (e1 : (a % 2 = 1 → a' = a + 1 ∧ v' = min v (nodeAt nodes a)) ∧ (a % 2 = 0 → a' = a ∧ v' = v)) (e2 : (b % 2 = 1 → b' = b - 1 ∧ v'' = min v' (nodeAt nodes (b - 1))) ∧ (b % 2 = 0 → b' = b ∧ v'' = v')) :
    min v'' (rmin (nodeAt nodes) (a' / 2) (b' / 2 - a' / 2)) = min v (rmin (nodeAt nodes) a (b - a)) ∧ 1 ≤ a' / 2 ∧ b' / 2 ≤ 2 * n ∧ b' / 2 - a' / 2 < b - a := by
  have hA : min v' (rmin (nodeAt nodes) a' (b - a')) = min v (rmin (nodeAt nodes) a (b - a)) ∧ a' % 2 = 0 ∧ a ≤ a' ∧ a' ≤ b := by
    rcases Nat.mod_two_eq_zero_or_one a with h | h
    · obtain ⟨rfl, rfl⟩ := e1.2 h
      exact ⟨rfl, h, Nat.le_refl _, by omega⟩
    · obtain ⟨rfl, rfl⟩ := e1.1 h
      refine ⟨?_, by omega, by omega, by omega⟩
      obtain ⟨k, hk⟩ : ∃ k, b - a = k + 1 := ⟨b - a - 1, by omega⟩
      rw [hk, show b - (a + 1) = k by omega]
      show _ = min v (min (nodeAt nodes a) (rmin (nodeAt nodes) (a + 1) k))
      omega
  obtain ⟨h1, h2, h3, h4⟩ := hA
  have hB : min v'' (rmin (nodeAt nodes) a' (b' - a')) = min v' (rmin (nodeAt nodes) a' (b - a')) ∧ b' % 2 = 0 ∧ b' ≤ b ∧ a' ≤ b' := by
    rcases Nat.mod_two_eq_zero_or_one b with h | h
    · obtain ⟨rfl, rfl⟩ := e2.2 h
      exact ⟨rfl, h, Nat.le_refl _, h4⟩
    · obtain ⟨rfl, rfl⟩ := e2.1 h
      refine ⟨?_, by omega, by omega, by omega⟩
      obtain ⟨k, hk⟩ : ∃ k, b - a' = k + 1 := ⟨b - a' - 1, by omega⟩
      rw [hk, rmin_snoc, show b - 1 - a' = k by omega, show a' + k = b - 1 by omega]
      omega
  obtain ⟨h5, h6, h7, h8⟩ := hB
  have hH := rmin_half (nodeAt nodes) (a' / 2) (b' / 2 - a' / 2) (fun i hi1 hi2 => hT.2 i (by omega) (by omega))
  rw [show 2 * (a' / 2) = a' by omega, show 2 * (b' / 2 - a' / 2) = b' - a' by omega] at hH
  refine ⟨by rw [← hH, h5, h1], by omega, by omega, by omega⟩
theorem ret_int' {k : IntKind} {a b : Int} (h : a = b) : Ending.returned (.int k a) = .returned (.int k b) := by rw [h]

def intsV (xs : List Int) : List Value := xs.map (Value.int .i64)
theorem intsV_get {xs : List Int} {i : Nat} (h : i < xs.length) : (intsV xs)[i]? = some (.int .i64 (nodeAt xs i)) := by simp [intsV, nodeAt, List.getElem?_eq_getElem h]

theorem ite_min (x y : Int) : (if y < x then y else x) = min x y := by split <;> omega

set_option maxHeartbeats 1000000 in
/-- (*minTree).least. -/
theorem least_any (gT gN c n a b : Nat) (nodes : List Int) (w : World) (rt : RowAt w gT 82 [.int .i64 n, .slice (some ⟨gN, 0, none⟩) nodes.length c]) (rn : RowAt w gN 3 (intsV nodes)) (hT : TreeOK nodes n) (hab : a ≤ b) (hb : b ≤ n) (hn : n ≤ 1024) :
    Calls Yba.prog 21 #[.pointer (some ⟨gT, 0, none⟩), .int .i64 a, .int .i64 b] w fun e w' => e = .returned (.int .i64 (rmin (nodeAt nodes) (n + a) (b - a))) ∧ ∃ q, w' = w.drewN q := by
  have t0 : w.cell? ⟨gT, 0, none⟩ = some (.int .i64 n) := by rw [rt.cell]; rfl
  have t1 : w.cell? ⟨gT, 1, none⟩ = some (.slice (some ⟨gN, 0, none⟩) nodes.length c) := by rw [rt.cell]; rfl
  have RN := hid rn
  have HT := hid hT
  have hlen : nodes.length = 2 * n := hT.1
  have NC : Hid (∀ i, i < nodes.length → w.cell? ⟨gN, i, none⟩ = some (.int .i64 (nodeAt nodes i))) := fun i hi => by rw [rn.cell]; exact intsV_get hi
  rw [hlen] at t1
  have HLEN := hid hlen
  clear rt rn hT hlen
  obtain ⟨R, hR⟩ : ∃ R, rmin (nodeAt nodes) (n + a) (b - a) = R := ⟨_, rfl⟩
  rw [hR]
  have HR := hid hR
  clear hR
  go_enter Yba.func21, Yba.ntmps21
  go_wp2
  go_quiet (fail)
  go_wp2
  go_loop [1, 2, 7] (fun x y v => ∃ (i j : Nat) (vv : Int), x = .int .i64 i ∧ y = .int .i64 j ∧ v = .int .i64 vv ∧ (i < j → 1 ≤ i) ∧ j ≤ 2 * n ∧ vv ≤ NV ∧ min vv (rmin (nodeAt nodes) i (j - i)) = R) (fun x y _ => (intOf y).toNat - (intOf x).toNat)
  case atStart => exact ⟨a + n, b + n, NV, by go_num, by go_num, rfl, by omega, by omega, Int.le_refl _, by
    have h := HR.out
    have hl := rmin_le (nodeAt nodes) (n + a) (b - a)
    rw [Nat.add_comm a n, show b + n - (n + a) = b - a by omega]
    omega⟩
  case round =>
    obtain ⟨i, j, vv, rfl, rfl, rfl, hi, hj, hv, hm⟩ := hrel
    have HM := hid hm
    have HV := hid hv
    clear hm hv
    by_cases hlt : i < j
    · have hi1 := hi hlt
      have hlen := HLEN.out
      have c1 := NC.out i (by omega)
      have c2 := NC.out (j - 1) (by omega)
      clear hlen hi
      have hj1 : 1 ≤ j := by omega
      rcases Nat.mod_two_eq_zero_or_one i with pi | pi <;> rcases Nat.mod_two_eq_zero_or_one j with pj | pj
      · have qi : ((i : Int) % 2 == 1) = false := by simp; omega
        have qj : ((j : Int) % 2 == 1) = false := by simp; omega
        have C := hid (climb nodes n i j vv HT.out hi1 hlt hj (i) (j) (vv) (vv) ⟨fun h => by omega, fun _ => ⟨rfl, rfl⟩⟩ ⟨fun h => by omega, fun _ => ⟨rfl, rfl⟩⟩)
        go_wp2
        go_round
        case rel =>
          obtain ⟨C1, C2, C3, C4⟩ := C.out
          have hv := HV.out
          exact ⟨(i) / 2, (j) / 2, vv, congrArg (Value.int .i64) (by omega), congrArg (Value.int .i64) (by omega), congrArg (Value.int .i64) (by rfl), fun _ => C2, C3, by omega, C1.trans HM.out⟩
        case measure =>
          obtain ⟨C1, C2, C3, C4⟩ := C.out
          simp [intOf]; omega
      · have qi : ((i : Int) % 2 == 1) = false := by simp; omega
        have qj : ((j : Int) % 2 == 1) = true := by simp; omega
        have C := hid (climb nodes n i j vv HT.out hi1 hlt hj (i) (j - 1) (vv) (min (vv) (nodeAt nodes (j - 1))) ⟨fun h => by omega, fun _ => ⟨rfl, rfl⟩⟩ ⟨fun _ => ⟨rfl, rfl⟩, fun h => by omega⟩)
        go_wp2
        go_round
        case rel =>
          obtain ⟨C1, C2, C3, C4⟩ := C.out
          have hv := HV.out
          exact ⟨(i) / 2, (j - 1) / 2, min (vv) (nodeAt nodes (j - 1)), congrArg (Value.int .i64) (by omega), congrArg (Value.int .i64) (by omega), congrArg (Value.int .i64) (by simp only [ite_min]), fun _ => C2, C3, by omega, C1.trans HM.out⟩
        case measure =>
          obtain ⟨C1, C2, C3, C4⟩ := C.out
          simp [intOf]; omega
      · have qi : ((i : Int) % 2 == 1) = true := by simp; omega
        have qj : ((j : Int) % 2 == 1) = false := by simp; omega
        have C := hid (climb nodes n i j vv HT.out hi1 hlt hj (i + 1) (j) (min vv (nodeAt nodes i)) (min vv (nodeAt nodes i)) ⟨fun _ => ⟨rfl, rfl⟩, fun h => by omega⟩ ⟨fun h => by omega, fun _ => ⟨rfl, rfl⟩⟩)
        go_wp2
        go_round
        case rel =>
          obtain ⟨C1, C2, C3, C4⟩ := C.out
          have hv := HV.out
          exact ⟨(i + 1) / 2, (j) / 2, min vv (nodeAt nodes i), congrArg (Value.int .i64) (by omega), congrArg (Value.int .i64) (by omega), congrArg (Value.int .i64) (by simp only [ite_min]), fun _ => C2, C3, by omega, C1.trans HM.out⟩
        case measure =>
          obtain ⟨C1, C2, C3, C4⟩ := C.out
          simp [intOf]; omega
      · have qi : ((i : Int) % 2 == 1) = true := by simp; omega
        have qj : ((j : Int) % 2 == 1) = true := by simp; omega
        have C := hid (climb nodes n i j vv HT.out hi1 hlt hj (i + 1) (j - 1) (min vv (nodeAt nodes i)) (min (min vv (nodeAt nodes i)) (nodeAt nodes (j - 1))) ⟨fun _ => ⟨rfl, rfl⟩, fun h => by omega⟩ ⟨fun _ => ⟨rfl, rfl⟩, fun h => by omega⟩)
        go_wp2
        go_round
        case rel =>
          obtain ⟨C1, C2, C3, C4⟩ := C.out
          have hv := HV.out
          exact ⟨(i + 1) / 2, (j - 1) / 2, min (min vv (nodeAt nodes i)) (nodeAt nodes (j - 1)), congrArg (Value.int .i64) (by omega), congrArg (Value.int .i64) (by omega), congrArg (Value.int .i64) (by simp only [ite_min]), fun _ => C2, C3, by omega, C1.trans HM.out⟩
        case measure =>
          obtain ⟨C1, C2, C3, C4⟩ := C.out
          simp [intOf]; omega
    · go_wp2
      go_ret
      have h := HM.out
      have hv := HV.out
      rw [show j - i = 0 by omega] at h
      have e : vv = R := by
        have h' : min vv NV = R := h
        omega
      exact ⟨ret_int' e, _, rfl⟩
end Go.Proofs.Ybulkcwnq
