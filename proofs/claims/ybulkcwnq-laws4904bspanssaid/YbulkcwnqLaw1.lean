import Derived.Test.YbulkcwnqLaw0
namespace Go.Proofs.Ybulkcwnq
open Go.RowKit Go.Lib

/-- A rest as it lies: its block, its capacity, its ids. -/
structure Rw where
  g : Nat
  c : Nat
  r : List Int
def Rw.v (x : Rw) : Value := .slice (some ⟨x.g, 0, none⟩) x.r.length x.c
structure RwIn (w : World) (x : Rw) : Prop where
  len : x.r.length ≤ 1025
  ids : ∀ v ∈ x.r, 0 ≤ v ∧ v < 3
  cell : ∀ (k : Nat) (v : Int), x.r[k]? = some v → w.cell? ⟨x.g, k, none⟩ = some (.int .u32 v)
theorem RwIn.below {w w' : World} {x : Rw} (h : RwIn w x) (hb : Below w.heap.size w w') : RwIn w' x := ⟨h.len, h.ids, fun k v e => cell_below hb (h.cell k v e)⟩
/-- The rests so far. -/
structure RsAt (w : World) (gS : Nat) (x0 : Int) (t : Nat) (rs : List Rw) (vals : List Value) : Prop where
  row : RowAt w gS 23 vals
  len : vals.length = t
  each : ∀ (i : Nat) (x : Rw), rs[i]? = some x → vals[i]? = some x.v ∧ gS < x.g ∧ RwIn w x ∧ x.r[0]? = some x0
/-- The rests, sorted. -/
structure Rests (w : World) (gS : Nat) (x0 : Int) (rs : List Rw) : Prop where
  each : ∀ (i : Nat) (x : Rw), rs[i]? = some x → w.cell? ⟨gS, i, none⟩ = some x.v ∧ gS < x.g ∧ RwIn w x ∧ x.r[0]? = some x0
  up : RowsUp (rs.map Rw.r)
theorem Rests.below {w w' : World} {gS : Nat} {x0 : Int} {rs : List Rw} (h : Rests w gS x0 rs) (hb : Below w.heap.size w w') : Rests w' gS x0 rs :=
  ⟨fun i x e => by obtain ⟨h1, h2, h3, h4⟩ := h.each i x e; exact ⟨cell_below hb h1, h2, h3.below hb, h4⟩, h.up⟩

theorem lexC_refl (x : List Int) : lexC x x = 0 := by
  induction x with
  | nil => rfl
  | cons a x ih => simp [lexC, ih]
theorem lexC_flip (x y : List Int) : lexC x y = - lexC y x := by
  induction x generalizing y with
  | nil => cases y <;> rfl
  | cons a x ih =>
    cases y with
    | nil => rfl
    | cons b y =>
      simp only [lexC]
      rcases Int.lt_trichotomy a b with h | h | h
      · rw [if_pos h, if_neg (by omega), if_pos h]
      · subst h; simp [ih y]
      · rw [if_neg (by omega), if_pos h, if_pos h]; rfl
theorem lexC_trans (x y z : List Int) (h1 : lexC x y ≤ 0) (h2 : lexC y z ≤ 0) : lexC x z ≤ 0 ∧ (lexC x y < 0 → lexC x z < 0) ∧ (lexC y z < 0 → lexC x z < 0) := by
  induction x generalizing y z with
  | nil =>
    cases z with
    | nil =>
      cases y with
      | nil => simp [lexC]
      | cons b y => simp [lexC] at h2
    | cons c z => exact ⟨by show (-1 : Int) ≤ 0; decide, fun _ => by show (-1 : Int) < 0; decide, fun _ => by show (-1 : Int) < 0; decide⟩
  | cons a x ih =>
    cases y with
    | nil => simp [lexC] at h1
    | cons b y =>
      cases z with
      | nil => simp [lexC] at h2
      | cons c z =>
        simp only [lexC] at h1 h2 ⊢
        by_cases e1 : a < b
        · by_cases e2 : b < c
          · rw [if_pos (show a < c by omega)]; simp
          · rw [if_neg e2] at h2
            by_cases e3 : c < b
            · rw [if_pos e3] at h2; omega
            · rw [if_pos (show a < c by omega)]; simp
        · rw [if_neg e1] at h1
          by_cases e4 : b < a
          · rw [if_pos e4] at h1; omega
          · obtain rfl : a = b := by omega
            by_cases e2 : a < c
            · rw [if_pos e2]; simp
            · rw [if_neg e2] at h2
              by_cases e3 : c < a
              · rw [if_pos e3] at h2; omega
              · rw [if_neg e3] at h2
                simp only [if_neg e4] at h1
                have h := ih y z h1 h2
                simpa [if_neg e2, if_neg e3] using h

open Go.Sort in
theorem lex_swo {α : Type} (f : α → List Int) : SWO (ltOf (fun x y : α => lexC (f x) (f y))) := by
  have flip := lexC_flip
  refine ⟨fun x => ?_, fun x y z h1 h2 => ?_, fun x y z h1 h2 => ?_⟩
  · simp [ltOf, lexC_refl]
  · simp only [ltOf, decide_eq_true_eq] at *
    exact (lexC_trans _ _ _ (by omega) (by omega)).2.1 h1
  · simp only [ltOf, decide_eq_false_iff_not, Int.not_lt] at *
    have a := flip (f x) (f y)
    have b := flip (f y) (f z)
    have c := flip (f x) (f z)
    have := (lexC_trans (f z) (f y) (f x) (by omega) (by omega)).1
    omega

open Go.Sort in
theorem below_sortWorld {α : Type} [Inhabited α] (enc : α → Value) (w : World) (blk m : Nat) (dk : Array α) (os : Array Obj) : Keep [blk] w (sortWorld enc w blk 0 m dk os) := by
  refine ⟨rfl, rfl, rfl, ?_, fun k hk hn => ?_⟩
  · unfold sortWorld
    rw [size_grow, Go.Sort.size_putRow]
    show w.heap.size ≤ w.heap.size + _
    omega
  · have hne : blk ≠ k := fun h => hn (by simp [h])
    unfold sortWorld grow putRow mapBlock
    show ((w.heap.modify blk _) ++ os)[k]? = _
    rw [Array.getElem?_append_left (by simpa using hk), Array.getElem?_modify]
    simp [hne]

theorem f8enters : ∀ args w, (callFunc 8 args).run Yba.prog w = .ok (.enter 8 args) w := enters_of Yba.func8 (by kernel_rfl) rfl

open Go.Sort in
/-- slices.SortFunc at the law's closure. -/
theorem sort_any (w : World) (gS : Nat) (x0 : Int) (t : Nat) (rs : List Rw) (vals : List Value) (R : RsAt w gS x0 t rs vals) (hl : rs.length = t) (ht : t ≤ 1024) (cap : Nat) :
    Calls Yba.prog 7 #[.slice (some ⟨gS, 0, none⟩) t cap, .func (.func 8) #[] #[]] w fun e w' => e = .returned (.tuple #[]) ∧ Below gS w w' ∧ ∃ rs' : List Rw, rs'.length = t ∧ Rests w' gS x0 rs' := by
  let α := { x : Rw // gS ≠ x.g ∧ RwIn w x }
  letI : Inhabited α := ⟨⟨⟨gS + 1, 0, []⟩, by simp, by simp, by simp, by simp⟩⟩
  have hok : ∀ x ∈ rs, gS ≠ x.g ∧ RwIn w x := fun x hx => by
    obtain ⟨i, hi, rfl⟩ := List.getElem_of_mem hx
    have := R.each i rs[i] (List.getElem?_eq_getElem hi)
    exact ⟨by omega, this.2.2.1⟩
  let d : Array α := (rs.attach.map (fun x => (⟨x.1, hok x.1 x.2⟩ : α))).toArray
  have hds : d.size = t := by simp [d, hl]
  have hdv : d.toList.map (fun x : α => x.1) = rs := by simp [d, List.map_map, Function.comp_def]
  have hdi : ∀ j, j < d.size → rs[j]? = some (d[j]!).1 := fun j hj => by
    rw [← hdv, getElem!_pos d j hj]
    simp [hj]
  have hH : Holds (fun x : α => x.1.v) w gS 0 d := fun j hj => by
    have := R.each j _ (hdi j hj)
    rw [Nat.zero_add]
    exact ⟨by rw [R.row.cell]; exact this.1, R.row.frozen j⟩
  have hsz := R.row.lt
  have K : ∀ (m : Nat) (dk : Array α) (os : Array Obj), Keep [gS] w (sortWorld (fun x : α => x.1.v) w gS 0 m dk os) := fun m dk os => below_sortWorld _ w gS m dk os
  have KC : ∀ (m : Nat) (dk : Array α) (os : Array Obj) (b o : Nat) (v : Value), gS ≠ b → w.cell? ⟨b, o, none⟩ = some v → (sortWorld (fun x : α => x.1.v) w gS 0 m dk os).cell? ⟨b, o, none⟩ = some v := fun m dk os b o v hne hc => by
    have hlt : b < w.heap.size := by
      rcases Nat.lt_or_ge b w.heap.size with h' | h'
      · exact h'
      · simp [World.cell?, Array.getElem?_eq_none h'] at hc
    have := (K m dk os).block b hlt (by simp [Ne.symm hne])
    simp only [World.cell?] at hc ⊢
    rw [this]; exact hc
  have hcmp : CmpLays1 Yba.prog 8 #[] (fun x : α => x.1.v) (fun x y : α => lexC x.1.r y.1.r) gS 0 d.size w := fun m os dk hs x y => by
    refine (lexClosure x.1.g x.1.c y.1.g y.1.c x.1.r y.1.r _ (fun k v e => KC m dk os _ _ _ x.2.1 (x.2.2.cell k v e)) (fun k v e => KC m dk os _ _ _ y.2.1 (y.2.2.cell k v e)) x.2.2.len y.2.2.len).mono ?_
    rintro e w' ⟨rfl, rfl⟩
    exact ⟨rfl, 0, #[], by rw [grow_empty]; rfl⟩
  have S := Yba.slices_SortFunc (fun x : α => x.1.v) (fun x => rfl) (fun x y : α => lexC x.1.r y.1.r) (lex_swo (fun x : α => x.1.r)) 8 #[] gS 0 cap d w f8enters hcmp hH hsz (by omega)
  rw [hds] at S
  refine S.mono ?_
  rintro e w' ⟨rfl, d', n, os, hp, hs, rfl⟩
  have hds' : d'.size = t := by rw [hp.1, hds]
  have hperm : d'.toList.Perm d.toList := by
    have := hp.2.2
    rw [show t = d.size from hds.symm] at this
    rw [show (d.extract 0 d.size) = d by simp] at this
    rw [show (d'.extract 0 d.size) = d' by rw [hds, ← hds']; simp] at this
    exact this
  have hHd := holds_sortWorld (fun x : α => x.1.v) w gS 0 n d d' os hsz hH (by rw [hds', hds])
  refine ⟨rfl, (K n d' os).below (by simp) (Nat.le_of_lt hsz), d'.toList.map (fun x : α => x.1), by simp [hds'], ?_, ?_⟩
  · intro i x hx
    have hi : i < d'.size := by
      have := (List.getElem?_eq_some_iff.1 hx).1
      simpa using this
    have e : x = (d'[i]!).1 := by
      rw [getElem!_pos d' i hi]
      simp [hi] at hx
      exact hx.symm
    have hmem : x ∈ rs := by
      rw [← hdv, ← (hperm.map (fun x : α => x.1)).mem_iff]
      exact List.mem_of_getElem? hx
    obtain ⟨j, hj, hjx⟩ := List.getElem_of_mem hmem
    obtain ⟨_, h2, h3, h4⟩ := R.each j x (by rw [List.getElem?_eq_getElem hj, hjx])
    have := (hHd i hi).1
    rw [Nat.zero_add] at this
    exact ⟨by rw [this, e], h2, ⟨h3.len, h3.ids, fun k v f => KC n d' os _ _ _ (by omega) (h3.cell k v f)⟩, h4⟩
  · intro u v huv hv
    simp at hv
    have := hs u v (Nat.zero_le _) huv (by omega)
    simp only [ltOf, decide_eq_false_iff_not, Int.not_lt] at this
    have e : ∀ i, i < d'.size → rowAt ((d'.toList.map (fun x : α => x.1)).map Rw.r) i = (d'[i]!).1.r := fun i hi => by
      rw [getElem!_pos d' i hi]
      simp [rowAt, hi]
    rw [e u (by omega), e v (by omega)]
    have f := lexC_flip (d'[v]!).1.r (d'[u]!).1.r
    omega
end Go.Proofs.Ybulkcwnq
