/-
  THE TWO SLICES THAT COME IN, OPENED: bytes; lines.
-/
import Derived.Test.YbulkajgkFmtStripsWalk
import Derived.ProofKit
import Derived.OpenShut
import Derived.ChangeSlices
import Derived.ChangeArms
import Derived.Deep.Slices
namespace Go.Proofs.YbulkajgkFmt
open Go.ChangeShapes Go.WideShapes Go.ChangeAt Go.RowKit Go.Deep
set_option linter.unusedVariables false

theorem Ybaf.cells9 : Ybaf.prog.cellsOf 9 = 1 := by kernel_rfl
theorem Ybaf.cells4 : Ybaf.prog.cellsOf 4 = 1 := by kernel_rfl
theorem Ybaf.cells5 : Ybaf.prog.cellsOf 5 = 1 := by kernel_rfl
theorem Ybaf.cells3 : Ybaf.prog.cellsOf 3 = 1 := by kernel_rfl

section
variable {H : Type} {enc : TypeId × Value → H} {w : World} {base : Nat} {spare : Nat → Bool} {held : Bool}

/-- one line, off its five cells -/
theorem line_of {fuel : Nat} {cs : List Value} {x : DataW H × List MemPlace} (h : DataW.trod enc Ybaf.prog w base spare held fuel 44 cs = some x) :
    ∃ l : Ln, cs = [.string l.body, .bool l.blank, .int .u8 l.pad, .int .u8 l.esc, .int .i64 l.line] ∧ l.body.size ≤ maxLen ∧ (0 ≤ l.pad ∧ l.pad ≤ 255) ∧ (0 ≤ l.esc ∧ l.esc ≤ 255) := by
  obtain ⟨xs, n, _, _, hl, hlen, hf⟩ := DataW.trod_struct Ybaf.underlying44 h
  rw [Ybaf.cells44] at hl
  match cs, hl, xs, hlen with
  | [v0, v1, v2, v3, v4], _, [y0, y1, y2, y3, y4], _ =>
    have g0 : DataW.trod enc Ybaf.prog w base spare held n 9 [v0] = some y0 := by simpa [Ybaf.cells9] using hf 0 _ rfl
    have g1 : DataW.trod enc Ybaf.prog w base spare held n 4 [v1] = some y1 := by simpa [Ybaf.cells4] using hf 1 _ rfl
    have g2 : DataW.trod enc Ybaf.prog w base spare held n 5 [v2] = some y2 := by simpa [Ybaf.cells5] using hf 2 _ rfl
    have g3 : DataW.trod enc Ybaf.prog w base spare held n 5 [v3] = some y3 := by simpa [Ybaf.cells5] using hf 3 _ rfl
    have g4 : DataW.trod enc Ybaf.prog w base spare held n 3 [v4] = some y4 := by simpa [Ybaf.cells3] using hf 4 _ rfl
    obtain ⟨s, e0, _, hs⟩ := DataW.trod_string Ybaf.underlying9 g0
    obtain ⟨b, e1, _⟩ := DataW.trod_bool Ybaf.underlying4 g1
    obtain ⟨p, e2, _, hp⟩ := DataW.trod_int Ybaf.underlying5 g2
    obtain ⟨c, e3, _, hc⟩ := DataW.trod_int Ybaf.underlying5 g3
    obtain ⟨m, e4, _, hm⟩ := DataW.trod_int Ybaf.underlying3 g4
    simp at e0 e1 e2 e3 e4
    subst e0 e1 e2 e3 e4
    exact ⟨⟨s, b, p, c, m⟩, rfl, hs, bounds_u8 hp, bounds_u8 hc⟩

theorem pick_fn {len : Nat} {p : Nat → Ln → Prop} (h : ∀ i, i < len → ∃ l, p i l) : ∃ L : Nat → Ln, ∀ i, i < len → p i (L i) :=
  ⟨fun i => if hi : i < len then (h i hi).choose else ⟨⟨#[]⟩, false, 0, 0, 0⟩, fun i hi => by simp only [dif_pos hi]; exact (h i hi).choose_spec⟩

theorem ls_view {fuel : Nat} {a : Option Addr} {len cap : Nat} {x : DataW H × List MemPlace} (h : DataW.trod enc Ybaf.prog w base spare held fuel 23 [.slice a len cap] = some x) :
    ∃ (b off : Nat) (L : Nat → Ln), LsView w a b off len L ∧ len ≤ 9223372036854775807 ∧ ∀ i, i < len → (L i).body.size ≤ 9223372036854775807 := by
  rcases open_slice Ybaf.underlying23 h with ⟨hcs, _⟩ | ⟨ad, l, c, m, n, D, Pl, hcs, _, hl, hm, hmm, _, hx⟩
  · simp at hcs
    obtain ⟨rfl, rfl, rfl⟩ := hcs
    exact ⟨0, 0, fun _ => ⟨⟨#[]⟩, false, 0, 0, 0⟩, ⟨fun h => by omega, fun i h => by omega, fun i h => by omega, fun i h => by omega, fun i h => by omega, fun i h => by omega, fun i h => by omega, fun i h => by omega⟩, by omega, fun i h => by omega⟩
  · simp at hcs
    obtain ⟨rfl, rfl, rfl⟩ := hcs
    have hlm : len ≤ m := by rw [hmm]; split <;> omega
    unfold maxLen at hm
    rw [Ybaf.cells44] at hx
    have hall : ∀ i, i < len → ∃ l : Ln, (l.body.size ≤ maxLen ∧ (0 ≤ l.pad ∧ l.pad ≤ 255) ∧ (0 ≤ l.esc ∧ l.esc ≤ 255)) ∧ w.cell? (ad.add (i * 5)) = some (.string l.body) ∧ w.cell? ((ad.add (i * 5)).add 1) = some (.bool l.blank) ∧
        w.cell? ((ad.add (i * 5)).add 2) = some (.int .u8 l.pad) ∧ w.cell? ((ad.add (i * 5)).add 3) = some (.int .u8 l.esc) ∧ w.cell? ((ad.add (i * 5)).add 4) = some (.int .i64 l.line) := by
      intro i hi
      obtain ⟨cs', h1, h2⟩ := hx i (by omega)
      obtain ⟨lv, rfl, p1, p2, p3⟩ := line_of h2
      obtain ⟨_, _, hc⟩ := World.cells?_some h1
      exact ⟨lv, ⟨p1, p2, p3⟩, by simpa [Addr.add] using hc 0 (by omega), hc 1 (by omega), hc 2 (by omega), hc 3 (by omega), hc 4 (by omega)⟩
    by_cases h0 : len = 0
    · subst h0
      exact ⟨0, 0, fun _ => ⟨⟨#[]⟩, false, 0, 0, 0⟩, ⟨fun h => by omega, fun i h => by omega, fun i h => by omega, fun i h => by omega, fun i h => by omega, fun i h => by omega, fun i h => by omega, fun i h => by omega⟩, by omega, fun i h => by omega⟩
    · obtain ⟨L, hL⟩ := pick_fn hall
      obtain ⟨b, off, spot⟩ := ad
      have hspot : spot = none := by simpa [Addr.add] using World.cell?_spot (hL 0 (by omega)).2.1
      subst hspot
      refine ⟨b, off, L, ⟨fun _ => rfl, fun i hi => ?_, fun i hi => ?_, fun i hi => ?_, fun i hi => ?_, fun i hi => ?_, fun i hi => (hL i hi).1.2.1, fun i hi => (hL i hi).1.2.2⟩, by omega, fun i hi => (hL i hi).1.1⟩
      · have := (hL i hi).2.1; rw [add_plain] at this; exact this
      · have := (hL i hi).2.2.1; rw [add_plain, add_plain] at this; exact this
      · have := (hL i hi).2.2.2.1; rw [add_plain, add_plain] at this; exact this
      · have := (hL i hi).2.2.2.2.1; rw [add_plain, add_plain] at this; exact this
      · have := (hL i hi).2.2.2.2.2; rw [add_plain, add_plain] at this; exact this

theorem px_view {fuel : Nat} {a : Option Addr} {len cap : Nat} {x : DataW H × List MemPlace} (h : DataW.trod enc Ybaf.prog w base (fun _ => true) held fuel 22 [.slice a len cap] = some x) :
    ∃ (b off : Nat) (z : Nat → Int), PxView w a b off len z ∧ len ≤ 9223372036854775807 := by
  rcases open_ints Ybaf.underlying22 Ybaf.underlying5 Ybaf.cells5 h with ⟨hcs, _⟩ | ⟨ad, l, c, zs, hcs, _, hl, hm, hz, _, hcell, hw⟩
  · simp at hcs
    obtain ⟨rfl, rfl, rfl⟩ := hcs
    exact ⟨0, 0, fun _ => 0, ⟨fun h => by omega, fun i h => by omega, fun i h => by omega⟩, by omega⟩
  · simp at hcs
    obtain ⟨rfl, rfl, rfl⟩ := hcs
    simp only [if_true] at hz
    unfold maxLen at hm
    by_cases h0 : len = 0
    · subst h0
      exact ⟨0, 0, fun _ => 0, ⟨fun h => by omega, fun i h => by omega, fun i h => by omega⟩, by omega⟩
    · obtain ⟨b, off, spot⟩ := ad
      have hspot : spot = none := by simpa [Addr.add] using World.cell?_spot (hcell 0 (by omega))
      subst hspot
      refine ⟨b, off, fun i => zs.getD i 0, ⟨fun _ => rfl, fun i hi => ?_, fun i hi => by rw [← add_plain]; exact hcell i (by omega)⟩, by omega⟩
      have hm : zs.getD i 0 ∈ zs := by
        rw [List.getD_eq_getElem?_getD, List.getElem?_eq_getElem (by omega)]
        exact List.getElem_mem _
      exact bounds_u8 (hw _ hm)
end

end Go.Proofs.YbulkajgkFmt
