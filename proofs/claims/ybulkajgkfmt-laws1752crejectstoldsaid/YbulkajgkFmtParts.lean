/-
  THE WALKS OF 'zzs1752cbig' (5) AND 'zzs1752cprefix' (6).
-/
import Derived.Test.YbulkajgkFmtTrim
import Derived.Deep.OwnRows
namespace Go.Proofs.YbulkajgkFmt
open Go.RowKit
set_option linter.unusedVariables false

/-- a line as it comes in -/
structure Ln where
  body : ByteArray
  blank : Bool
  pad : Int
  esc : Int
  line : Int

/-- what the walks are told of the slice of lines -/
structure LsView (w : World) (a : Option Addr) (b off len : Nat) (L : Nat → Ln) : Prop where
  addr : 0 < len → a = some ⟨b, off, none⟩
  c0 : ∀ i, i < len → w.cell? ⟨b, off + i * 5, none⟩ = some (.string (L i).body)
  c1 : ∀ i, i < len → w.cell? ⟨b, off + i * 5 + 1, none⟩ = some (.bool (L i).blank)
  c2 : ∀ i, i < len → w.cell? ⟨b, off + i * 5 + 2, none⟩ = some (.int .u8 (L i).pad)
  c3 : ∀ i, i < len → w.cell? ⟨b, off + i * 5 + 3, none⟩ = some (.int .u8 (L i).esc)
  c4 : ∀ i, i < len → w.cell? ⟨b, off + i * 5 + 4, none⟩ = some (.int .i64 (L i).line)
  bp : ∀ i, i < len → 0 ≤ (L i).pad ∧ (L i).pad ≤ 255
  be : ∀ i, i < len → 0 ≤ (L i).esc ∧ (L i).esc ≤ 255

theorem cell_keep {w w' : World} (hb : Below w.heap.size w w') {a : Addr} {v : Value} (h : w.cell? a = some v) : w'.cell? a = some v :=
  (hb.cell (World.block_lt_of_cell? _ _ h)).trans h
theorem LsView.later {w w' : World} {a : Option Addr} {b off len : Nat} {L : Nat → Ln} (h : LsView w a b off len L) (hb : Below w.heap.size w w') : LsView w' a b off len L :=
  ⟨h.addr, fun i hi => cell_keep hb (h.c0 i hi), fun i hi => cell_keep hb (h.c1 i hi), fun i hi => cell_keep hb (h.c2 i hi), fun i hi => cell_keep hb (h.c3 i hi), fun i hi => cell_keep hb (h.c4 i hi), h.bp, h.be⟩

theorem Ybaf.cells44 : Ybaf.prog.cellsOf 44 = 5 := by kernel_rfl

set_option maxHeartbeats 800000 in
theorem big_any (a : Option Addr) (b off len cap : Nat) (L : Nat → Ln) (w : World) (hl : len ≤ 1024) (hv : LsView w a b off len L) (hbd : ∀ i, i < len → (L i).body.size ≤ 9223372036854775807) :
    Calls Ybaf.prog 5 #[.slice a len cap] w fun e w' => ∃ r : Bool, e = .returned (.bool r) ∧ (r = false → ∀ i, i < len → (L i).body.size ≤ 1024) ∧ Below w.heap.size w w' := by
  have HV := toHid hv
  have HB := toHid hbd
  clear hv hbd
  have c44 := Ybaf.cells44
  go_enter Ybaf.func5, Ybaf.ntmps5
  go_wp2
  go_loopg [7] len (fun g s7 wr => ∃ k : Nat, k + g = len ∧ s7 = .int .i64 (k : Int) ∧ Hid (∀ i, i < k → (L i).body.size ≤ 1024) ∧ Below w.heap.size w wr)
  case atStart => exact ⟨0, by omega, rfl, fun i hi => by omega, Below.refl _ _⟩
  case round =>
    obtain ⟨k, hk, rfl, hsm, hb⟩ := hrel
    have hk' := toHid hk
    cases gk with
    | zero =>
      obtain rfl : k = len := by omega
      clear hk
      go_wp2
      go_ret
      exact ⟨false, rfl, fun _ => hsm.out, hb⟩
    | succ t =>
      have hkl : k < len := by omega
      clear hk
      have V := HV.out.later hb
      obtain rfl := V.addr (by omega)
      have l0 := V.c0 k hkl
      have l1 := V.c1 k hkl
      have l2 := V.c2 k hkl
      have l3 := V.c3 k hkl
      have l4 := V.c4 k hkl
      have hbk := HB.out k hkl
      have hkz : (k : Int) < (len : Int) := by omega
      obtain ⟨body, hbody⟩ : ∃ body, body = (L k).body := ⟨_, rfl⟩
      rw [← hbody] at l0 hbk
      have HB2 := toHid hbody
      clear V hbody
      by_cases hbig : 1024 < body.size
      · go_wp2
        go_ret
        exact ⟨true, rfl, fun h => by (cases h), hb.alloc hb.size _⟩
      · have hsm2 : Hid (∀ i, i < k + 1 → (L i).body.size ≤ 1024) := fun i hi => by
          by_cases e : i = k
          · subst e; rw [← HB2.out]; omega
          · exact hsm.out i (by omega)
        go_wp2
        go_roundg t
        case rel => exact ⟨k + 1, by have := hk'.out; omega, by go_num, hsm2, hb.alloc hb.size _⟩
        case measure => omega

/-! ### the spaces ahead -/
def codes (z : Nat → Int) (k : Nat) : List Nat := (List.range k).map fun i => (z i).toNat
theorem codes_succ (z : Nat → Int) (k : Nat) : codes z (k + 1) = codes z k ++ [(z k).toNat] := by simp [codes, List.range_succ]
theorem codes_length (z : Nat → Int) (k : Nat) : (codes z k).length = k := by simp [codes]

def four : Nat → ByteArray := fun j => if j = 0 then ⟨#[32]⟩ else if j = 1 then ⟨#[9]⟩ else if j = 2 then ⟨#[194, 160]⟩ else ⟨#[227, 128, 128]⟩
theorem four_piece (c : Int) (j : Nat) (h0 : 0 ≤ c) (hj : c % 4 = (j : Int)) : (four j).data.toList = piece c.toNat ∧ j < 4 ∧ (four j).size ≤ 3 := by
  have hm : c.toNat % 4 = j := by omega
  unfold four piece
  rw [hm]
  rcases (show j = 0 ∨ j = 1 ∨ j = 2 ∨ j = 3 by omega) with rfl | rfl | rfl | rfl
  · exact ⟨rfl, by omega, by decide⟩
  · exact ⟨rfl, by omega, by decide⟩
  · exact ⟨rfl, by omega, by decide⟩
  · exact ⟨rfl, by omega, by decide⟩

theorem four_row (w : World) : (w.alloc (.cells #[.string ⟨#[32]⟩, .string ⟨#[9]⟩, .string ⟨#[194, 160]⟩, .string ⟨#[227, 128, 128]⟩] 45)).rowIs w.heap.size 45 4 (fun j => .string (four j)) := by
  refine World.rowIs_alloc w #[.string ⟨#[32]⟩, .string ⟨#[9]⟩, .string ⟨#[194, 160]⟩, .string ⟨#[227, 128, 128]⟩] 45 (fun j => .string (four j)) ?_
  intro i hi
  match i, hi with
  | 0, _ => rfl
  | 1, _ => rfl
  | 2, _ => rfl
  | 3, _ => rfl
  | i + 4, hi => simp at hi; omega

theorem app_list (a b : ByteArray) : (a ++ b).data.toList = a.data.toList ++ b.data.toList := by rw [ByteArray.data_append]; simp
theorem app_size (a b : ByteArray) : (a ++ b).size = a.size + b.size := by rw [size_list, size_list, size_list, app_list]; simp

set_option maxHeartbeats 800000 in
theorem prefix_any (a : Option Addr) (b off len cap : Nat) (z : Nat → Int) (w : World) (hl : len ≤ 1024) (ha : 0 < len → a = some ⟨b, off, none⟩)
    (hz : ∀ i, i < len → 0 ≤ z i ∧ z i ≤ 255) (hc : ∀ i, i < len → w.cell? ⟨b, off + i, none⟩ = some (.int .u8 (z i))) :
    Calls Ybaf.prog 6 #[.slice a len cap] w fun e w' => ∃ S : ByteArray, e = .returned (.string S) ∧ S.data.toList = spc (codes z len) ∧ Below w.heap.size w w' := by
  have HA := toHid ha
  have HZ := toHid hz
  have HC := toHid hc
  clear ha hz hc
  have hrow := toHid (four_row w)
  go_enter Ybaf.func6, Ybaf.ntmps6
  go_wp2
  go_loopg [4, 10] len (fun g s4 s10 wr => ∃ (k : Nat) (S : ByteArray), k + g = len ∧ s4 = .string S ∧ s10 = .int .i64 (k : Int) ∧ Hid (S.data.toList = spc (codes z k)) ∧ S.size ≤ 3 * k ∧ Hid (wr.rowIs w.heap.size 45 4 (fun j => .string (four j))) ∧ Below w.heap.size w wr)
  case atStart => exact ⟨0, ⟨#[]⟩, by omega, rfl, rfl, rfl, by decide, hrow, (Below.refl _ _).alloc (Nat.le_refl _) _⟩
  case round =>
    clear hrow
    obtain ⟨k, S, hk, rfl, rfl, hS, hsz, hR, hb⟩ := hrel
    have hk' := toHid hk
    cases gk with
    | zero =>
      obtain rfl : k = len := by omega
      clear hk
      go_wp2
      go_ret
      exact ⟨S, rfl, hS.out, hb⟩
    | succ t =>
      have hkl : k < len := by omega
      clear hk
      obtain rfl := HA.out (by omega)
      obtain ⟨c, hcz⟩ : ∃ c, c = z k := ⟨_, rfl⟩
      have l0 := cell_keep hb (HC.out k hkl)
      obtain ⟨c0, c1⟩ := HZ.out k hkl
      rw [← hcz] at l0 c0 c1
      obtain ⟨j, hj⟩ : ∃ j : Nat, c % 4 = (j : Int) := ⟨(c % 4).toNat, by omega⟩
      obtain ⟨f1, f2, f3⟩ := four_piece c j c0 hj
      have l1 := hR.out.cell f2
      have hkz : (k : Int) < (len : Int) := by omega
      have hj4 : (j : Int) < 4 := by omega
      have X := toHid (show (four j).data.toList = piece (z k).toNat by rw [← hcz]; exact f1)
      generalize four j = P at *
      clear hcz f1
      go_wp2
      go_roundg t
      case rel => exact ⟨k + 1, S ++ P, by have := hk'.out; omega, rfl, by go_num, by show _ = _; rw [codes_succ, spc_append, app_list, hS.out, X.out]; simp [spc], by rw [app_size]; omega, hR, hb⟩
      case measure => omega

end Go.Proofs.YbulkajgkFmt
