import Derived.Test.YbulkcwheNat
namespace Go.Proofs.Ybulkcwhe
open Go.RowKit

/-- Of what lay in w only the blocks on the list S may have turned. -/
structure Keep (S : List Nat) (w w' : World) : Prop where
  os : w'.os = w.os
  tape : w'.tape = w.tape
  output : w'.output = w.output
  size : w.heap.size ≤ w'.heap.size
  block : ∀ k, k < w.heap.size → k ∉ S → w'.heap[k]? = w.heap[k]?

theorem Keep.refl (S : List Nat) (w : World) : Keep S w w := ⟨rfl, rfl, rfl, Nat.le_refl _, fun _ _ _ => rfl⟩
theorem Keep.trans {S : List Nat} {a b c : World} (h : Keep S a b) (k : Keep S b c) : Keep S a c :=
  ⟨k.os.trans h.os, k.tape.trans h.tape, k.output.trans h.output, Nat.le_trans h.size k.size, fun i hi hs => (k.block i (Nat.lt_of_lt_of_le hi h.size) hs).trans (h.block i hi hs)⟩
theorem Keep.mono {S S' : List Nat} {w w' : World} (h : Keep S w w') (hs : ∀ k ∈ S, k < w.heap.size → k ∈ S') : Keep S' w w' :=
  ⟨h.os, h.tape, h.output, h.size, fun i hi hn => h.block i hi (fun hm => hn (hs i hm hi))⟩
theorem Keep.of_below {w w' : World} (h : Below w.heap.size w w') (S : List Nat) : Keep S w w' := ⟨h.os, h.tape, h.output, h.size, fun i hi _ => h.block i hi⟩
theorem Keep.below {S : List Nat} {w w' : World} {B : Nat} (h : Keep S w w') (hS : ∀ k ∈ S, B ≤ k) (hB : B ≤ w.heap.size) : Below B w w' :=
  ⟨h.os, h.tape, h.output, h.size, fun i hi => h.block i (Nat.lt_of_lt_of_le hi hB) (fun hm => by have := hS i hm; omega)⟩
theorem Keep.alloc {S : List Nat} {a w : World} (h : Keep S a w) (o : Obj) : Keep S a (w.alloc o) :=
  h.trans (Keep.of_below ((Below.refl _ w).alloc (Nat.le_refl _) o) S)
theorem Keep.drewN {S : List Nat} {a w : World} (h : Keep S a w) (n : Nat) : Keep S a (w.drewN n) :=
  h.trans (Keep.of_below (below_drewN (Below.refl _ w) n) S)
theorem Keep.setCell {S : List Nat} {a w : World} (h : Keep S a w) {p : Addr} (hp : p.block ∈ S ∨ a.heap.size ≤ p.block) (v : Value) : Keep S a (w.setCell p v) :=
  ⟨h.os, h.tape, h.output, by simpa [World.setCell] using h.size, fun i hi hs => by
    rw [Below.heap_setCell _ _ _ _ (fun e => by subst e; rcases hp with hp | hp; exact hs hp; omega)]; exact h.block i hi hs⟩
theorem RowAt.keep {S : List Nat} {w w' : World} {g : Nat} {e : TypeId} {vs : List Value} (h : RowAt w g e vs) (hk : Keep S w w') (hg : g ∉ S) : RowAt w' g e vs := by
  unfold RowAt; rw [hk.block g h.lt hg]; exact h

/-- A nat's value: nil where it has no word; else the head of a row of its own. -/
def NatAt (w : World) (a : Option Addr) (c : Nat) (ws : List Int) : Prop :=
  (ws = [] ∧ a = none ∧ c = 0) ∨ (ws ≠ [] ∧ ∃ ga rest, a = some ⟨ga, 0, none⟩ ∧ RowAt w ga 41 (wordsV (ws ++ rest)) ∧ c = ws.length + rest.length ∧ c ≤ 7)

theorem RowAt.setRow {w : World} {g : Nat} {e : TypeId} {vs : List Value} (h : RowAt w g e vs) (vs' : List Value) : RowAt (w.setRow g vs'.toArray) g e vs' := setRow_heap w g _ _ e _ h
theorem Keep.setRow {S : List Nat} {a w : World} (h : Keep S a w) {g : Nat} (hg : g ∈ S ∨ a.heap.size ≤ g) (cs : Array Value) : Keep S a (w.setRow g cs) :=
  ⟨h.os, h.tape, h.output, by simpa [World.setRow] using h.size, fun i hi hs => by
    rw [setRow_other w g i cs (fun e => by subst e; rcases hg with hg | hg; exact hs hg; omega)]; exact h.block i hi hs⟩

/-- copy of words from the head of one row into another, or the same. -/
theorem copy_words (ty : TypeId) (w : World) (g o dl dc gs sl sc n : Nat) (ds xs : List Int) (rd : RowAt w g 41 (wordsV ds)) (rs : RowAt w gs 41 (wordsV xs)) (hn : n = Nat.min sl dl) (hx : n ≤ xs.length) (hd : o + n ≤ ds.length) :
    (Builtin.copy_ #[66, 66] ty #[.slice (some ⟨g, o, none⟩) dl dc, .slice (some ⟨gs, 0, none⟩) sl sc]).run Yba.prog w = .ok (goInt n) (w.setRow g (wordsV (ds.take o ++ (xs.take n ++ ds.drop (o + n)))).toArray) := by
  have l : ((wordsV xs).take n).length = n := by simp [wordsV]; omega
  have h := run_copy_row (P := Yba.prog) w 66 66 ty 41 g o dl dc ⟨gs, 0, none⟩ sl sc (wordsV ds).toArray 41 ((wordsV xs).take n) Yba.underlying66 size41 rd (by rw [l, hn])
    (fun j v hj => by
      have hj' : j < n := by have := (List.getElem?_eq_some_iff.1 hj).1; omega
      rw [List.getElem?_take_of_lt hj'] at hj
      rw [show (⟨gs, 0, none⟩ : Addr).add j = ⟨gs, j, none⟩ from by unfold Addr.add; split <;> simp_all]
      rw [rs.cell]; exact hj)
    (by rw [l]; simpa [wordsV] using hd) (fun v hv => by
      have := List.mem_of_mem_take hv
      obtain ⟨u, _, rfl⟩ := List.mem_map.1 this
      rfl)
  rw [l] at h
  have e : ((wordsV ds).toArray.toList.take o ++ (wordsV xs).take n ++ (wordsV ds).toArray.toList.drop (o + n)) = wordsV (ds.take o ++ (xs.take n ++ ds.drop (o + n))) := by
    simp [wordsV, List.map_take, List.map_drop]
  rw [e] at h
  exact h

set_option maxHeartbeats 400000 in
/-- nat.set of nil by nil. -/
theorem nset_nil (w : World) : Calls Yba.prog 43 #[.slice none 0 0, .slice none 0 0] w fun e w' => e = .returned (.slice none 0 0) ∧ w' = w := by
  have hcp := fun (w : World) (ty : TypeId) => run_copy_none (P := Yba.prog) w 66 66 ty 41 none none 0 0 0 0 Yba.underlying66 size41 rfl
  have k := fun w => nmake_fit none 0 0 0 (Nat.le_refl _) (by omega) w
  have K := hid k
  clear k
  go_enter Yba.func43, Yba.ntmps43
  go_wp2_with (go_at_call 40; refine (K.out _).mono ?_; rintro e w' ⟨rfl, hw⟩; subst hw)
  go_ret
  exact ⟨rfl, rfl⟩

set_option maxHeartbeats 400000 in
/-- nat.set of a nat by itself. -/
theorem nset_self (g n c : Nat) (xs : List Int) (w : World) (hr : RowAt w g 41 (wordsV xs)) (hn : n ≤ xs.length) (hc : n ≤ c) (hc' : c ≤ 7) :
    Calls Yba.prog 43 #[.slice (some ⟨g, 0, none⟩) n c, .slice (some ⟨g, 0, none⟩) n c] w fun e w' => e = .returned (.slice (some ⟨g, 0, none⟩) n c) ∧ w' = w := by
  have k := fun w => nmake_fit (some ⟨g, 0, none⟩) n c n hc hc' w
  have K := hid k
  have hcp : ∀ ty, (Builtin.copy_ #[66, 66] ty #[.slice (some ⟨g, 0, none⟩) n c, .slice (some ⟨g, 0, none⟩) n c]).run Yba.prog w = .ok (goInt n) w := fun ty => by
    have h := copy_words ty w g 0 n c g n c n xs xs hr hr (Nat.min_self n).symm hn (by omega)
    rw [List.take_zero, List.nil_append, Nat.zero_add, List.take_append_drop, setRow_self w g _ _ _ hr] at h
    exact h
  clear k
  go_enter Yba.func43, Yba.ntmps43
  go_wp2_with (go_at_call 40; refine (K.out _).mono ?_; rintro e w' ⟨rfl, hw⟩; subst hw)
  go_ret
  exact ⟨rfl, rfl⟩

set_option maxHeartbeats 400000 in
/-- nat.set of nil by one word. -/
theorem nset_one (gx cx : Nat) (xs : List Int) (x0 : Int) (w : World) (hr : RowAt w gx 41 (wordsV (x0 :: xs))) :
    Calls Yba.prog 43 #[.slice none 0 0, .slice (some ⟨gx, 0, none⟩) 1 cx] w fun e w' => e = .returned (.slice (some ⟨w.heap.size, 0, none⟩) 1 1) ∧ RowAt w' w.heap.size 41 (wordsV [x0]) ∧ Keep [] w w' := by
  have k := fun w => nmake_one w
  have K := hid k
  have rn : RowAt (w.alloc (.cells #[.int .u64 0] 41)) w.heap.size 41 (wordsV [0]) := RowAt.new w 41 _
  have hcp : ∀ ty, (Builtin.copy_ #[66, 66] ty #[.slice (some ⟨w.heap.size, 0, none⟩) 1 1, .slice (some ⟨gx, 0, none⟩) 1 cx]).run Yba.prog (w.alloc (.cells #[.int .u64 0] 41)) = .ok (goInt 1) ((w.alloc (.cells #[.int .u64 0] 41)).setRow w.heap.size (wordsV [x0]).toArray) := fun ty => by
    have h := copy_words ty _ w.heap.size 0 1 1 gx 1 cx 1 [0] (x0 :: xs) rn (hr.alloc _) rfl (by simp) (by simp)
    simpa using h
  have R := hid (rn.setRow (wordsV [x0]))
  have KP := hid (((Keep.refl [] w).alloc (.cells #[.int .u64 0] 41)).setRow (g := w.heap.size) (.inr (Nat.le_refl _)) (wordsV [x0]).toArray)
  clear k rn
  obtain ⟨W, hW⟩ : ∃ W, (w.alloc (.cells #[.int .u64 0] 41)).setRow w.heap.size (wordsV [x0]).toArray = W := ⟨_, rfl⟩
  rw [hW] at hcp R KP
  clear hW hr
  go_enter Yba.func43, Yba.ntmps43
  go_wp2_with (go_at_call 40; refine (K.out _).mono ?_; rintro e w' ⟨rfl, hw⟩; subst hw)
  go_ret
  exact ⟨rfl, R.out, KP.out⟩

set_option maxHeartbeats 400000 in
/-- nat.set of nil by two words. -/
theorem nset_two (gx cx : Nat) (xs : List Int) (x0 x1 : Int) (w : World) (hr : RowAt w gx 41 (wordsV (x0 :: x1 :: xs))) :
    Calls Yba.prog 43 #[.slice none 0 0, .slice (some ⟨gx, 0, none⟩) 2 cx] w fun e w' => e = .returned (.slice (some ⟨w.heap.size, 0, none⟩) 2 6) ∧ RowAt w' w.heap.size 41 (wordsV [x0, x1, 0, 0, 0, 0]) ∧ Keep [] w w' := by
  have k := fun w => nmake_new none 0 0 2 (by omega) (by omega) (by omega) w
  have K := hid k
  obtain ⟨Z, hZ⟩ : ∃ Z, wordsV (List.replicate (2 + 4) 0) = Z := ⟨_, rfl⟩
  rw [hZ] at K
  have rn : RowAt (w.alloc (.cells Z.toArray 41)) w.heap.size 41 (wordsV [0, 0, 0, 0, 0, 0]) := by rw [← hZ]; exact RowAt.new w 41 _
  have hcp : ∀ ty, (Builtin.copy_ #[66, 66] ty #[.slice (some ⟨w.heap.size, 0, none⟩) 2 6, .slice (some ⟨gx, 0, none⟩) 2 cx]).run Yba.prog (w.alloc (.cells Z.toArray 41)) = .ok (goInt 2) ((w.alloc (.cells Z.toArray 41)).setRow w.heap.size (wordsV [x0, x1, 0, 0, 0, 0]).toArray) := fun ty => by
    have h := copy_words ty _ w.heap.size 0 2 6 gx 2 cx 2 [0, 0, 0, 0, 0, 0] (x0 :: x1 :: xs) rn (hr.alloc _) rfl (by simp) (by simp)
    simpa using h
  have R := hid (rn.setRow (wordsV [x0, x1, 0, 0, 0, 0]))
  have KP := hid (((Keep.refl [] w).alloc (.cells Z.toArray 41)).setRow (g := w.heap.size) (.inr (Nat.le_refl _)) (wordsV [x0, x1, 0, 0, 0, 0]).toArray)
  clear k rn
  obtain ⟨W, hW⟩ : ∃ W, (w.alloc (.cells Z.toArray 41)).setRow w.heap.size (wordsV [x0, x1, 0, 0, 0, 0]).toArray = W := ⟨_, rfl⟩
  rw [hW] at hcp R KP
  clear hW hr hZ
  go_enter Yba.func43, Yba.ntmps43
  go_wp2_with (go_at_call 40; refine (K.out _).mono ?_; rintro e w' ⟨rfl, hw⟩; subst hw)
  go_ret
  exact ⟨rfl, R.out, KP.out⟩

set_option maxHeartbeats 400000 in
/-- nat.setWord of nil. -/
theorem setWord_zero (w : World) : Calls Yba.prog 39 #[.slice none 0 0, .int .u64 0] w fun e w' => e = .returned (.slice none 0 0) ∧ w' = w := by
  go_enter Yba.func39, Yba.ntmps39
  go_wp2
  go_ret
  exact ⟨rfl, rfl⟩
set_option maxHeartbeats 400000 in
theorem setWord_one (x : Int) (hx : (x == 0) = false) (w : World) : Calls Yba.prog 39 #[.slice none 0 0, .int .u64 x] w fun e w' => e = .returned (.slice (some ⟨w.heap.size, 0, none⟩) 1 1) ∧ w' = w.alloc (.cells #[.int .u64 x] 41) := by
  have K := hid nmake_one
  go_enter Yba.func39, Yba.ntmps39
  go_wp2_with (go_at_call 40; refine (K.out _).mono ?_; rintro e w' ⟨rfl, hw⟩; subst hw)
  go_ret
  exact ⟨rfl, rfl⟩
set_option maxHeartbeats 400000 in
/-- nat.setUint64 of nil. -/
theorem setU_zero (w : World) : Calls Yba.prog 34 #[.slice none 0 0, .int .u64 0] w fun e w' => e = .returned (.slice none 0 0) ∧ w' = w := by
  have K := hid setWord_zero
  go_enter Yba.func34, Yba.ntmps34
  go_wp2_with (go_at_call 39; refine (K.out _).mono ?_; rintro e w' ⟨rfl, hw⟩; subst hw)
  go_ret
  exact ⟨rfl, rfl⟩
set_option maxHeartbeats 400000 in
theorem setU_one (x : Int) (hx : (x == 0) = false) (w : World) : Calls Yba.prog 34 #[.slice none 0 0, .int .u64 x] w fun e w' => e = .returned (.slice (some ⟨w.heap.size, 0, none⟩) 1 1) ∧ w' = w.alloc (.cells #[.int .u64 x] 41) := by
  have K := hid (setWord_one x hx)
  go_enter Yba.func34, Yba.ntmps34
  go_wp2_with (go_at_call 39; refine (K.out _).mono ?_; rintro e w' ⟨rfl, hw⟩; subst hw)
  go_ret
  exact ⟨rfl, rfl⟩
end Go.Proofs.Ybulkcwhe
