/-
  THE WALKS OF THE SMALL CALLEES: 'zzs1750aget' (9), '(*editGraph).at' (11), '(*editGraph).reach' (10).
-/
import Derived.Test.YbulkajfiProg
import Derived.Test.YbulkajfiMyers
import Derived.WalkKit
import Derived.WalkSpells
import Derived.WalkSmall
import Derived.Below
namespace Go.Proofs.Ybulkajfi
open Go.RowKit
set_option linter.unusedVariables false

theorem ret_int {k : IntKind} {a b : Int} (h : a = b) : Ending.returned (.int k a) = .returned (.int k b) := by rw [h]

theorem look_mid (f : Nat → Int) (d k : Int) (i : Nat) (h1 : ¬ k < -d) (h2 : ¬ d < k) (hi : (k + d) / 2 = (i : Int)) : f i = Myers.look f d k := by
  unfold Myers.look
  rw [if_neg (by omega), hi]
  rfl

set_option maxHeartbeats 400000 in
theorem get_any (gf cf rows rb d : Nat) (k : Int) (f : Nat → Int) (w : World) (hd : d < rows) (hd2 : d ≤ 1000) (hk1 : -2000 ≤ k) (hk2 : k ≤ 2000)
    (hcell : w.cell? ⟨gf, d, none⟩ = some (.slice (some ⟨rb, 0, none⟩) (d + 1) (d + 1))) (hrow : ∀ i, i ≤ d → w.cell? ⟨rb, i, none⟩ = some (.int .i64 (f i))) :
    Calls Yba.prog 9 #[.slice (some ⟨gf, 0, none⟩) rows cf, .int .i64 (d : Int), .int .i64 k] w fun e w' => e = .returned (.int .i64 (Myers.look f d k)) ∧ w = w' := by
  by_cases h1 : k < -(d : Int)
  · go_enter Yba.func9, Yba.ntmps9
    go_wp2
    go_ret
    exact ⟨ret_int (Myers.look_out f d k (.inl h1)).symm, rfl⟩
  · by_cases h2 : (d : Int) < k
    · go_enter Yba.func9, Yba.ntmps9
      go_wp2
      go_ret
      exact ⟨ret_int (Myers.look_out f d k (.inr h2)).symm, rfl⟩
    · obtain ⟨i, hi⟩ : ∃ i : Nat, (k + d) / 2 = (i : Int) := ⟨((k + d) / 2).toNat, by omega⟩
      have hi2 : i ≤ d := by omega
      have hr := hrow i hi2
      have HI : Hid (f i = Myers.look f d k) := look_mid f d k i h1 h2 hi
      have h3 : (i : Int) < (d : Int) + 1 := by omega
      have h4 : (d : Int) < rows := by omega
      clear hrow
      go_enter Yba.func9, Yba.ntmps9
      go_wp2
      go_ret
      exact ⟨ret_int HI.out, rfl⟩

/-- what the walks are told of a graph: its three slices; a row of the table -/
structure Graph (w : World) (gb : Nat) (a b : Option Addr) (n ca m cb gf rows cf : Nat) : Prop where
  ca : w.cell? ⟨gb, 0, none⟩ = some (.slice a n ca)
  cb : w.cell? ⟨gb, 1, none⟩ = some (.slice b m cb)
  cf : w.cell? ⟨gb, 2, none⟩ = some (.slice (some ⟨gf, 0, none⟩) rows cf)

set_option maxHeartbeats 400000 in
theorem at_any {gb n ca m cb gf rows cf : Nat} {a b : Option Addr} (rb d : Nat) (k : Int) (f : Nat → Int) (w : World) (hG : Graph w gb a b n ca m cb gf rows cf) (hd : d < rows) (hd2 : d ≤ 1000) (hk1 : -2000 ≤ k) (hk2 : k ≤ 2000)
    (hcell : w.cell? ⟨gf, d, none⟩ = some (.slice (some ⟨rb, 0, none⟩) (d + 1) (d + 1))) (hrow : ∀ i, i ≤ d → w.cell? ⟨rb, i, none⟩ = some (.int .i64 (f i))) :
    Calls Yba.prog 11 #[.pointer (some ⟨gb, 0, none⟩), .int .i64 (d : Int), .int .i64 k] w fun e w' => e = .returned (.int .i64 (Myers.look f d k)) ∧ w = w' := by
  obtain ⟨g0, g1, g2⟩ := hG
  by_cases h1 : k < -(d : Int)
  · go_enter Yba.func11, Yba.ntmps11
    go_wp2
    go_ret
    exact ⟨ret_int (Myers.look_out f d k (.inl h1)).symm, rfl⟩
  · by_cases h2 : (d : Int) < k
    · go_enter Yba.func11, Yba.ntmps11
      go_wp2
      go_ret
      exact ⟨ret_int (Myers.look_out f d k (.inr h2)).symm, rfl⟩
    · obtain ⟨i, hi⟩ : ∃ i : Nat, (k + d) / 2 = (i : Int) := ⟨((k + d) / 2).toNat, by omega⟩
      have hi2 : i ≤ d := by omega
      have hr := hrow i hi2
      have HI : Hid (f i = Myers.look f d k) := look_mid f d k i h1 h2 hi
      have h3 : (i : Int) < (d : Int) + 1 := by omega
      have h4 : (d : Int) < rows := by omega
      clear hrow
      go_enter Yba.func11, Yba.ntmps11
      go_wp2
      go_ret
      exact ⟨ret_int HI.out, rfl⟩

theorem look_bd (f : Nat → Int) (d : Nat) (k : Int) (h : ∀ i, i ≤ d → -1 ≤ f i ∧ f i ≤ 1000) : -1 ≤ Myers.look f d k ∧ Myers.look f d k ≤ 1000 := by
  unfold Myers.look
  split
  · omega
  · exact h _ (by omega)

theorem ret_two {a b c d : Int} (h : a = b) (h' : c = d) : Ending.returned (.tuple #[.int .i64 a, .int .i64 c]) = .returned (.tuple #[.int .i64 b, .int .i64 d]) := by rw [h, h']

/-- the four ways of 'pick', each by the tests that part it -/
theorem pick_dr {n m p q k : Int} (h1 : 0 ≤ p ∧ p - (k + 1) < m) (h2 : 0 ≤ q ∧ q < n ∧ p < q + 1) : q + 1 = Myers.pick n m p q k ∧ k - 1 = Myers.from' n m p q k := by
  unfold Myers.pick Myers.from' Myers.down; rw [if_pos h1, if_pos h2, if_pos h2]; exact ⟨rfl, rfl⟩
theorem pick_d {n m p q k : Int} (h1 : 0 ≤ p ∧ p - (k + 1) < m) (h2 : ¬ (0 ≤ q ∧ q < n ∧ p < q + 1)) : p = Myers.pick n m p q k ∧ k + 1 = Myers.from' n m p q k := by
  unfold Myers.pick Myers.from' Myers.down; rw [if_pos h1, if_neg h2, if_neg h2, if_pos h1]; exact ⟨rfl, rfl⟩
theorem pick_r {n m p q k : Int} (h1 : ¬ (0 ≤ p ∧ p - (k + 1) < m)) (h2 : 0 ≤ q ∧ q < n) : q + 1 = Myers.pick n m p q k ∧ k - 1 = Myers.from' n m p q k := by
  have h3 : 0 ≤ q ∧ q < n ∧ -1 < q + 1 := ⟨h2.1, h2.2, by omega⟩
  unfold Myers.pick Myers.from' Myers.down; rw [if_neg h1, if_pos h3, if_pos h3]; exact ⟨rfl, rfl⟩
theorem pick_n {n m p q k : Int} (h1 : ¬ (0 ≤ p ∧ p - (k + 1) < m)) (h2 : ¬ (0 ≤ q ∧ q < n)) : -1 = Myers.pick n m p q k ∧ 0 = Myers.from' n m p q k := by
  have h3 : ¬ (0 ≤ q ∧ q < n ∧ -1 < q + 1) := fun h => h2 ⟨h.1, h.2.1⟩
  unfold Myers.pick Myers.from' Myers.down; rw [if_neg h1, if_neg h3, if_neg h3, if_neg h1]; exact ⟨rfl, rfl⟩

set_option maxHeartbeats 400000 in
theorem reach_core {gb n ca m cb gf rows cf : Nat} {a b : Option Addr} (d : Nat) (k p q : Int) (w : World) (hG : Graph w gb a b n ca m cb gf rows cf) (hd2 : d ≤ 1000) (hk1 : -1900 ≤ k) (hk2 : k ≤ 1900) (hp : -1 ≤ p ∧ p ≤ 1000) (hq : -1 ≤ q ∧ q ≤ 1000)
    (hn : n ≤ 1000) (hm : m ≤ 1000)
    (HP : Hid (Calls Yba.prog 11 #[.pointer (some ⟨gb, 0, none⟩), .int .i64 (d : Int), .int .i64 (k + 1)] w fun e w' => e = .returned (.int .i64 p) ∧ w = w'))
    (HQ : Hid (Calls Yba.prog 11 #[.pointer (some ⟨gb, 0, none⟩), .int .i64 (d : Int), .int .i64 (k - 1)] w fun e w' => e = .returned (.int .i64 q) ∧ w = w')) :
    Calls Yba.prog 10 #[.pointer (some ⟨gb, 0, none⟩), .int .i64 ((d : Int) + 1), .int .i64 k] w fun e w' => e = .returned (.tuple #[.int .i64 (Myers.pick n m p q k), .int .i64 (Myers.from' n m p q k)]) ∧ w = w' := by
  obtain ⟨g0, g1, g2⟩ := hG
  obtain ⟨hp1, hp2⟩ := hp
  obtain ⟨hq1, hq2⟩ := hq
  go_enter Yba.func10, Yba.ntmps10
  go_wp2_with fail
  refine HP.out.mono ?_
  rintro e w' ⟨rfl, rfl⟩
  go_wp2_with fail
  all_goals (refine HQ.out.mono ?_; rintro e w' ⟨rfl, rfl⟩)
  all_goals go_wp2_with fail
  all_goals go_ret2
  all_goals first
    | exact ⟨ret_two (pick_dr (by omega) (by omega)).1 (pick_dr (by omega) (by omega)).2, rfl⟩
    | exact ⟨ret_two (pick_d (by omega) (by omega)).1 (pick_d (by omega) (by omega)).2, rfl⟩
    | exact ⟨ret_two (pick_r (by omega) (by omega)).1 (pick_r (by omega) (by omega)).2, rfl⟩
    | exact ⟨ret_two (pick_n (by omega) (by omega)).1 (pick_n (by omega) (by omega)).2, rfl⟩

theorem reach_any {gb n ca m cb gf rows cf : Nat} {a b : Option Addr} (rb d : Nat) (k : Int) (f : Nat → Int) (w : World) (hG : Graph w gb a b n ca m cb gf rows cf) (hd : d < rows) (hd2 : d ≤ 1000) (hk1 : -1900 ≤ k) (hk2 : k ≤ 1900)
    (hf : ∀ i, i ≤ d → -1 ≤ f i ∧ f i ≤ 1000) (hn : n ≤ 1000) (hm : m ≤ 1000)
    (hcell : w.cell? ⟨gf, d, none⟩ = some (.slice (some ⟨rb, 0, none⟩) (d + 1) (d + 1))) (hrow : ∀ i, i ≤ d → w.cell? ⟨rb, i, none⟩ = some (.int .i64 (f i))) :
    Calls Yba.prog 10 #[.pointer (some ⟨gb, 0, none⟩), .int .i64 ((d : Int) + 1), .int .i64 k] w fun e w' =>
      e = .returned (.tuple #[.int .i64 (Myers.pick n m (Myers.look f d (k + 1)) (Myers.look f d (k - 1)) k), .int .i64 (Myers.from' n m (Myers.look f d (k + 1)) (Myers.look f d (k - 1)) k)]) ∧ w = w' :=
  reach_core d k _ _ w hG hd2 hk1 hk2 (look_bd f d _ hf) (look_bd f d _ hf) hn hm (at_any rb d _ f w hG hd hd2 (by omega) (by omega) hcell hrow) (at_any rb d _ f w hG hd hd2 (by omega) (by omega) hcell hrow)

end Go.Proofs.Ybulkajfi
