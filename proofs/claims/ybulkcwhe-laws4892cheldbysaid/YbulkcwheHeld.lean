import Derived.Test.YbulkcwheSpace
namespace Go.Proofs.Ybulkcwhe
open Go.RowKit

/-- Is one of the pairs that the places f to t-1 name held? -/
def held (hs : List Bool) (ss : List Nat) (f t : Nat) : Bool := ((ss.take t).drop f).any fun n => hs[n]?.getD false

theorem held_start (hs : List Bool) (ss : List Nat) (f : Nat) : held hs ss f f = false := by
  unfold held; rw [List.drop_of_length_le (by simp; omega)]; rfl
theorem held_succ {hs : List Bool} {ss : List Nat} {f k n : Nat} {b : Bool} (hf : f ≤ k) (hk : ss[k]? = some n) (hn : hs[n]? = some b) : held hs ss f (k + 1) = (held hs ss f k || b) := by
  obtain ⟨hl, rfl⟩ := List.getElem?_eq_some_iff.1 hk
  unfold held
  rw [List.take_succ_eq_append_getElem hl, List.drop_append_of_le_length (by simp; omega), List.any_append]
  simp [hn]
theorem held_found {hs : List Bool} {ss : List Nat} {f t k n : Nat} (hf : f ≤ k) (ht : k < t) (hk : ss[k]? = some n) (hn : hs[n]? = some true) : held hs ss f t = true := by
  unfold held
  rw [List.any_eq_true]
  refine ⟨n, ?_, by simp [hn]⟩
  apply List.mem_of_getElem? (i := k - f)
  rw [List.getElem?_drop, List.getElem?_take_of_lt (by omega)]
  rw [show f + (k - f) = k by omega]; exact hk

/-- The values of a row of bools, of a row of ints. -/
def boolsV (hs : List Bool) : List Value := hs.map Value.bool
def natsV (ss : List Nat) : List Value := ss.map fun (n : Nat) => Value.int .i64 (n : Int)
theorem boolsV_get {hs : List Bool} {i : Nat} {b : Bool} (h : hs[i]? = some b) : (boolsV hs)[i]? = some (.bool b) := by simp [boolsV, h]
theorem natsV_get {ss : List Nat} {i n : Nat} (h : ss[i]? = some n) : (natsV ss)[i]? = some (.int .i64 (n : Int)) := by simp [natsV, h]

set_option maxHeartbeats 400000 in
/-- zzs4892cmodel. -/
theorem cmodel_any (gh ch gs cs : Nat) (hs : List Bool) (ss : List Nat) (f t : Nat) (w : World) (hr : RowAt w gh 4 (boolsV hs)) (sr : RowAt w gs 3 (natsV ss))
    (hin : ∀ n ∈ ss, n < hs.length) (hft : f ≤ t) (htl : t ≤ ss.length) (hl : ss.length ≤ 1024) (_hl' : hs.length ≤ 1025) :
    Calls Yba.prog 19 #[.slice (some ⟨gh, 0, none⟩) hs.length ch, .slice (some ⟨gs, 0, none⟩) ss.length cs, .int .i64 f, .int .i64 t] w fun e w' => e = .returned (.bool (held hs ss f t)) ∧ w' = w := by
  have HR := hid hr
  have SR := hid sr
  have HI := hid hin
  clear hr sr hin
  go_enter Yba.func19, Yba.ntmps19
  go_wp2
  go_loop [9] (fun i => ∃ k : Nat, f ≤ k ∧ k ≤ t ∧ i = .int .i64 k ∧ held hs ss f k = false) (fun i => t - (intOf i).toNat)
  case atStart => exact ⟨f, Nat.le_refl _, hft, rfl, held_start _ _ _⟩
  case round =>
    obtain ⟨k, hfk, hkt, rfl, hh⟩ := hrel
    have HH := hid hh
    clear hh
    by_cases hlt : k < t
    · obtain ⟨n, hn⟩ := get_of_lt (show k < ss.length by omega)
      have hnl := HI.out n (List.mem_of_getElem? hn)
      obtain ⟨b, hb⟩ := get_of_lt hnl
      have c1 : w.cell? ⟨gs, k, none⟩ = some (.int .i64 (n : Int)) := by rw [SR.out.cell]; exact natsV_get hn
      have c2 : w.cell? ⟨gh, n, none⟩ = some (.bool b) := by rw [HR.out.cell]; exact boolsV_get hb
      have hks : k < ss.length := by omega
      have HN := hid hn
      have HB := hid hb
      clear hn hb
      cases b
      · go_wp2
        go_round
        case rel => exact ⟨k + 1, by omega, by omega, by go_num, by rw [held_succ hfk HN.out HB.out, HH.out]; rfl⟩
        case measure => simp [intOf]; omega
      · go_wp2
        go_ret
        exact ⟨ret_bool (held_found hfk hlt HN.out HB.out).symm, rfl⟩
    · go_wp2
      go_ret
      exact ⟨ret_bool (by rw [show t = k by omega, HH.out]), rfl⟩

set_option maxHeartbeats 1000000 in
/-- (*condition).heldInRun. -/
theorem heldInRun_any (gc gn gh ch gs cs : Nat) (c0 c1 c2 c3 c4 n0 n1 n2 n4 tl : Value) (hs : List Bool) (ss : List Nat) (f t : Nat) (w : World)
    (rc : RowAt w gc 64 [c0, c1, c2, c3, c4, .pointer (some ⟨gn, 0, none⟩), .int .i64 f, .int .i64 t]) (rn : RowAt w gn 76 [n0, n1, n2, .slice (some ⟨gs, 0, none⟩) ss.length cs, n4])
    (hr : RowAt w gh 4 (boolsV hs)) (sr : RowAt w gs 3 (natsV ss))
    (hin : ∀ n ∈ ss, n < hs.length) (hft : f ≤ t) (htl : t ≤ ss.length) (hcs : ss.length ≤ cs) (hcs' : cs ≤ 1024) (_hl' : hs.length ≤ 1025) :
    Calls Yba.prog 18 #[.pointer (some ⟨gc, 0, none⟩), .agg #[.slice (some ⟨gh, 0, none⟩) hs.length ch, tl]] w fun e w' => e = .returned (.bool (held hs ss f t)) ∧ Below w.heap.size w w' := by
  have p5 : w.cell? ⟨gc, 5, none⟩ = some (.pointer (some ⟨gn, 0, none⟩)) := by rw [rc.cell]; rfl
  have p6 : w.cell? ⟨gc, 6, none⟩ = some (.int .i64 f) := by rw [rc.cell]; rfl
  have p7 : w.cell? ⟨gc, 7, none⟩ = some (.int .i64 t) := by rw [rc.cell]; rfl
  have q3 : w.cell? ⟨gn, 3, none⟩ = some (.slice (some ⟨gs, 0, none⟩) ss.length cs) := by rw [rn.cell]; rfl
  have lgc := rc.lt
  have lgn := rn.lt
  have HR := hid hr
  have SR := hid sr
  have HI := hid hin
  clear hr sr hin rc rn
  have b0 : (0 : Int) ≤ (f : Int) := by omega
  have b1 : (f : Int) ≤ (t : Int) := by omega
  have b2 : (t : Int) ≤ (cs : Int) := by omega
  have lgh := HR.out.lt
  have lgs := SR.out.lt
  by_cases hcf : cs = f
  · subst hcf
    have e1 : t = cs := by omega
    subst e1
    go_enter Yba.func18, Yba.ntmps18
    go_wp2
    go_quiet (fail)
    go_wp2
    refine wp_loop_rounds 1 ?_
    rw [rounds_succ]
    go_wp2
    go_ret
    exact ⟨ret_bool (held_start _ _ _).symm, below_drewN ((Below.refl _ w).alloc (Nat.le_refl _) _) _⟩
  go_enter Yba.func18, Yba.ntmps18
  go_wp2
  go_quiet (fail)
  go_wp2
  go_loop [6, 24] (fun _ i => ∃ k : Nat, k ≤ t - f ∧ i = .int .i64 k ∧ held hs ss f (f + k) = false) (fun _ i => t - f - (intOf i).toNat)
  case atStart => exact ⟨0, Nat.zero_le _, rfl, held_start _ _ _⟩
  case round =>
    obtain ⟨k, hkt, rfl, hh⟩ := hrel
    have HH := hid hh
    clear hh
    by_cases hlt : k < t - f
    · obtain ⟨n, hn⟩ := get_of_lt (show f + k < ss.length by omega)
      have hnl := HI.out n (List.mem_of_getElem? hn)
      obtain ⟨b, hb⟩ := get_of_lt hnl
      have d1 : w.cell? ⟨gs, f + k, none⟩ = some (.int .i64 (n : Int)) := by rw [SR.out.cell]; exact natsV_get hn
      have d2 : w.cell? ⟨gh, n, none⟩ = some (.bool b) := by rw [HR.out.cell]; exact boolsV_get hb
      have HN := hid hn
      have HB := hid hb
      clear hn hb
      cases b
      · go_wp2
        go_round
        case rel => exact ⟨k + 1, by omega, by go_num, by rw [← Nat.add_assoc, held_succ (by omega) HN.out HB.out, HH.out]; rfl⟩
        case measure => simp [intOf]; omega
      · go_wp2
        go_ret
        exact ⟨ret_bool (held_found (by omega) (by omega) HN.out HB.out).symm, below_drewN ((Below.refl _ w).alloc (Nat.le_refl _) _) _⟩
    · go_wp2
      go_ret
      exact ⟨ret_bool (by rw [show t = f + k by omega, HH.out]), below_drewN ((Below.refl _ w).alloc (Nat.le_refl _) _) _⟩
end Go.Proofs.Ybulkcwhe
