import Derived.Test.YbulkcwheLawC
import Derived.Lib.SmallJoins
import Derived.Deep.Grids
import Derived.OpenShut
namespace Go.Proofs.Ybulkcwhe
open Go.ChangeShapes Go.WideShapes Go.ChangeAt Go.RowKit Go.Joins Go.Deep

theorem cells47 : Yba.prog.cellsOf 47 = 5 := by kernel_rfl
theorem cells44 : Yba.prog.cellsOf 44 = 1 := by kernel_rfl
theorem cells45 : Yba.prog.cellsOf 45 = 1 := by kernel_rfl
theorem cells25 : Yba.prog.cellsOf 25 = 1 := by kernel_rfl
theorem cells4 : Yba.prog.cellsOf 4 = 1 := by kernel_rfl

theorem array5 {α : Type} {cs : Array α} (h : cs.size = 5) : ∃ c0 c1 c2 c3 c4, cs = #[c0, c1, c2, c3, c4] := by
  obtain ⟨l⟩ := cs
  match l, h with
  | [c0, c1, c2, c3, c4], _ => exact ⟨c0, c1, c2, c3, c4, rfl⟩

/-- The elements of a slice of bools that came in, with their cells. -/
theorem bools_view {H : Type} {enc : TypeId × Value → H} {w : World} {fuel : Nat} {c : Value} {x : DataW H × List MemPlace} (h : DataW.trod enc Yba.prog w 0 (fun _ => true) true fuel 44 [c] = some x) :
    ∃ (a : Option Addr) (cap : Nat) (hs : List Bool), c = .slice a hs.length cap ∧ hs.length ≤ maxLen ∧ ∀ k v, hs[k]? = some v → ∃ b off, a = some ⟨b, off, none⟩ ∧ w.cell? ⟨b, off + k, none⟩ = some (.bool v) := by
  rcases open_bools Yba.underlying44 Yba.underlying4 cells4 h with ⟨hcs, _⟩ | ⟨a, len, cap, B, hcs, _, hl, hm, _, hcell⟩
  · simp at hcs
    subst hcs
    exact ⟨none, 0, [], rfl, by simp, fun k v h => by simp at h⟩
  · simp at hcs
    subst hcs
    refine ⟨some a, cap, (List.range len).map B, by simp, by simp; omega, fun k v hk => ?_⟩
    have hk' : k < len := by have := (List.getElem?_eq_some_iff.1 hk).1; simpa using this
    have hc := hcell k (by omega)
    have hc0 := hcell 0 (by omega)
    obtain ⟨b, off, spot⟩ := a
    have hspot : spot = none := by simpa [Addr.add] using World.cell?_spot hc0
    subst hspot
    rw [add_plain] at hc
    refine ⟨b, off, rfl, ?_⟩
    simp [hk'] at hk
    rw [hc, hk]

/-- The elements of a slice of uint16s that came in, with their cells. -/
theorem nums_view {H : Type} {enc : TypeId × Value → H} {w : World} {fuel : Nat} {c : Value} {x : DataW H × List MemPlace} (h : DataW.trod enc Yba.prog w 0 (fun _ => true) true fuel 45 [c] = some x) :
    ∃ (a : Option Addr) (cap : Nat) (os : List Int), c = .slice a os.length cap ∧ os.length ≤ maxLen ∧ (∀ k v, os[k]? = some v → ∃ b off, a = some ⟨b, off, none⟩ ∧ w.cell? ⟨b, off + k, none⟩ = some (.int .u16 v)) ∧ ∀ v ∈ os, 0 ≤ v ∧ v ≤ 65535 := by
  rcases open_ints Yba.underlying45 Yba.underlying25 cells25 h with ⟨hcs, _⟩ | ⟨a, len, cap, zs, hcs, _, hl, hm, hz, _, hcell, hwz⟩
  · simp at hcs
    subst hcs
    exact ⟨none, 0, [], rfl, by simp, fun k v h => by simp at h, fun v h => by simp at h⟩
  · simp at hcs
    subst hcs
    simp only [if_true] at hz
    obtain ⟨xs, hxl, hxc, hxw⟩ := row_view (k0 := .u16) (w := w) (a := some a) (len := len) (cap := cap) (zs := zs) (.inr ⟨a, rfl, hl, hm, by omega, hcell, hwz⟩)
    subst hxl
    exact ⟨some a, cap, xs, rfl, by omega, hxc, fun v hv => by have := bounds_u16 (hxw v hv); omega⟩

set_option maxRecDepth 100000 in
/-- The argument of the two laws, opened. -/
theorem open_run {H : Type} {enc : TypeId × Value → H} {w : World} {base : Nat} {v : Value} {d : DataW H} {p : List MemPlace}
    (hv : Value.okWide Yba.prog w .any base 47 v) (h : DataW.Trod enc Yba.prog w 0 (fun _ => true) true 47 v d p) :
    ∃ (ha : Option Addr) (hc : Nat) (last : Bool) (oa : Option Addr) (oc : Nat) (fr tz : Int) (hs0 : List Bool) (os0 : List Int),
      v = .agg #[.slice ha hs0.length hc, .bool last, .slice oa os0.length oc, .int .u16 fr, .int .u16 tz] ∧ Arg w ha oa fr tz hs0 os0 ∧ hs0.length ≤ maxLen ∧ os0.length ≤ maxLen := by
  obtain ⟨cs, rfl, hsz⟩ := okWide_struct Yba.underlying47 hv
  obtain ⟨c0, c1, c2, c3, c4, rfl⟩ := array5 (hsz.trans cells47)
  obtain ⟨fuel, hf⟩ := h
  obtain ⟨xs, n, _, _, hl, hlen, hfs⟩ := DataW.trod_struct Yba.underlying47 hf
  match xs, hlen with
  | [y0, y1, y2, y3, y4], _ =>
    have h0 := hfs 0 _ rfl
    have h1 := hfs 1 _ rfl
    have h2 := hfs 2 _ rfl
    have h3 := hfs 3 _ rfl
    have h4 := hfs 4 _ rfl
    simp [Value.cells, cells44, cells4, cells45, cells25] at h0 h1 h2 h3 h4
    obtain ⟨ha, hc, hs0, rfl, hm, hv0⟩ := bools_view h0
    obtain ⟨last, e1, _⟩ := DataW.trod_bool Yba.underlying4 h1
    obtain ⟨oa, oc, os0, rfl, om, ov0, ow⟩ := nums_view h2
    obtain ⟨fr, e3, _, wf3⟩ := DataW.trod_int Yba.underlying25 h3
    obtain ⟨tz, e4, _, wf4⟩ := DataW.trod_int Yba.underlying25 h4
    simp at e1 e3 e4
    subst e1 e3 e4
    have b3 := bounds_u16 wf3
    have b4 := bounds_u16 wf4
    exact ⟨ha, hc, last, oa, oc, fr, tz, hs0, os0, rfl, ⟨hv0, ov0, ow, by omega, by omega, by omega, by omega⟩, hm, om⟩
end Go.Proofs.Ybulkcwhe
