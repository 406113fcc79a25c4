/-
  THE WALK OF 'zzs1750aitems' (5): the items that a slice of bytes stands for.
-/
import Derived.Test.YbulkajfiProg
import Derived.WalkKit
import Derived.WalkSpells
import Derived.WalkSmall
import Derived.Deep.LoopGhost
import Derived.Deep.OwnRows
import Derived.BigQuiet
import Derived.Below
namespace Go.Proofs.Ybulkajfi
open Go.RowKit
set_option linter.unusedVariables false

def item (c : Int) : ByteArray := if c % 3 = 0 then ⟨#[97]⟩ else if c % 3 = 1 then ⟨#[98]⟩ else ⟨#[99]⟩

theorem Yba.info9 : (Yba.prog.info? 9).map (fun i => (i.zero, i.size, i.bytes)) = some (some (.string ByteArray.empty), 1, 16) := by kernel_rfl

/-- the three strings that the items are taken from -/
def abc : Nat → Value := fun j => if j = 0 then .string ⟨#[97]⟩ else if j = 1 then .string ⟨#[98]⟩ else .string ⟨#[99]⟩

structure ItemsIn (w wr : World) (len : Nat) (z : Nat → Int) (k : Nat) : Prop where
  below : Below w.heap.size w wr
  tab : wr.rowIs w.heap.size 38 3 abc
  row : wr.rowIs (w.heap.size + 1) 9 len (fun i => if i < k then .string (item (z i)) else .string ByteArray.empty)

theorem items_start (w : World) (len : Nat) (z : Nat → Int) :
    ItemsIn w ((w.alloc (.cells #[.string ⟨#[97]⟩, .string ⟨#[98]⟩, .string ⟨#[99]⟩] 38)).alloc (.cells (madeCells #[.string ByteArray.empty] len) 9)) len z 0 := by
  refine ⟨((Below.refl _ _).alloc (Nat.le_refl _) _).alloc (by simp) _, ?_, ?_⟩
  · refine World.rowIs.alloc ?_ _
    refine World.rowIs_alloc w #[.string ⟨#[97]⟩, .string ⟨#[98]⟩, .string ⟨#[99]⟩] 38 abc ?_
    intro i hi
    match i, hi with
    | 0, _ => rfl
    | 1, _ => rfl
    | 2, _ => rfl
    | i + 3, hi => simp at hi; omega
  · have h := World.rowIs_made (w.alloc (.cells #[.string ⟨#[97]⟩, .string ⟨#[98]⟩, .string ⟨#[99]⟩] 38)) (.string ByteArray.empty) len 9
    rw [Deep.nblk_alloc] at h
    exact h.congr (fun i _ => by simp)

theorem items_step {w wr : World} {len : Nat} {z : Nat → Int} {k : Nat} (h : ItemsIn w wr len z k) : ItemsIn w (wr.setCell ⟨w.heap.size + 1, k, none⟩ (.string (item (z k)))) len z (k + 1) := by
  refine ⟨h.below.setCell (by show w.heap.size ≤ w.heap.size + 1; omega) _, h.tab.setOther (by show w.heap.size ≠ w.heap.size + 1; omega) _, (h.row.set k _).congr (fun i _ => ?_)⟩
  by_cases e : i = k
  · subst e; simp
  · rw [if_neg e]
    by_cases hlt : i < k
    · rw [if_pos hlt, if_pos (by omega)]
    · rw [if_neg hlt, if_neg (by omega)]

theorem abc_item (c : Int) (j : Nat) (h0 : 0 ≤ c) (hj : c % 3 = (j : Int)) : abc j = .string (item c) ∧ j < 3 := by
  unfold abc item
  rcases (show j = 0 ∨ j = 1 ∨ j = 2 by omega) with rfl | rfl | rfl
  · rw [if_pos rfl, if_pos (by omega)]; exact ⟨rfl, by omega⟩
  · rw [if_neg (by omega), if_pos rfl, if_neg (by omega), if_pos (by omega)]; exact ⟨rfl, by omega⟩
  · rw [if_neg (by omega), if_neg (by omega), if_neg (by omega), if_neg (by omega)]; exact ⟨rfl, by omega⟩

set_option maxHeartbeats 400000 in
theorem items_any (a : Option Addr) (b off len cap : Nat) (z : Nat → Int) (w : World) (hlen : len ≤ 300) (ha : 0 < len → a = some ⟨b, off, none⟩)
    (hz : ∀ i, i < len → 0 ≤ z i ∧ z i ≤ 255) (hc : ∀ i, i < len → w.cell? ⟨b, off + i, none⟩ = some (.int .u8 (z i))) :
    Calls Yba.prog 5 #[.slice a len cap] w fun e w' => e = .returned (.slice (some ⟨w.heap.size + 1, 0, none⟩) len len) ∧ w'.rowIs (w.heap.size + 1) 9 len (fun i => .string (item (z i))) ∧ Below w.heap.size w w' := by
  have hmk := run_make_row' (P := Yba.prog) 23 9 (.string ByteArray.empty) 16 Yba.underlying23 Yba.info9 rfl .i64 .i64 len (by omega) (by omega)
  go_enter Yba.func5, Yba.ntmps5
  go_wp2
  clear hmk
  go_loopg [5] len (fun g i wr => ∃ k : Nat, k + g = len ∧ i = .int .i64 (k : Int) ∧ ItemsIn w wr len z k)
  case atStart => exact ⟨0, by omega, rfl, items_start w len z⟩
  case round =>
    obtain ⟨k, hk, rfl, hI⟩ := hrel
    cases gk with
    | zero =>
      obtain rfl : k = len := by omega
      go_wp2
      refine bodyPost_ret (v := .slice (some ⟨w.heap.size + 1, 0, none⟩) k k) (by simp [results, Yba.results5, go_sem]) rfl ⟨rfl, hI.row.congr (fun i hi => by rw [if_pos hi]), hI.below⟩
    | succ t =>
      have hkl : k < len := by omega
      obtain rfl := ha (by omega)
      have hkz : (k : Int) < (len : Int) := by omega
      obtain ⟨c, hcz⟩ : ∃ c, c = z k := ⟨_, rfl⟩
      have hcb := hz k hkl
      have hcc := hc k hkl
      have hbl : b < w.heap.size := World.block_lt_of_cell? _ _ hcc
      rw [← hcz] at hcb hcc
      obtain ⟨hc0, hc1⟩ := hcb
      have k0 : wr.cell? ⟨b, off + k, none⟩ = some (.int .u8 c) := (hI.below.cell (p := ⟨b, off + k, none⟩) hbl).trans hcc
      obtain ⟨j, hj⟩ : ∃ j : Nat, c % 3 = (j : Int) := ⟨(c % 3).toNat, by omega⟩
      obtain ⟨hja, hj3⟩ := abc_item c j hc0 hj
      have k1 : wr.cell? ⟨w.heap.size, j, none⟩ = some (.string (item c)) := by rw [← hja]; exact hI.tab.cell hj3
      have k2 : ∃ v, wr.cell? ⟨w.heap.size + 1, k, none⟩ = some v := ⟨_, hI.row.cell hkl⟩
      obtain ⟨v2, k2⟩ := k2
      have k3 : wr.frozen? ⟨w.heap.size + 1, k, none⟩ = false := hI.row.frozen k
      have hj4 : (j : Int) < 3 := by omega
      have HC := (show Hid (c = z k) from hcz)
      have HI2 := (show Hid (ItemsIn w wr len z k) from hI)
      clear hcz hja hz hc hcc hI
      go_wp2
      go_roundg t
      case rel => exact ⟨k + 1, by omega, by go_num, by have := items_step HI2.out; rw [← HC.out] at this; exact this⟩
      case measure => omega

end Go.Proofs.Ybulkajfi
