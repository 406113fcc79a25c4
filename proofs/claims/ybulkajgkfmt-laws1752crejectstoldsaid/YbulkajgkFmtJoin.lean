/-
  THE WALK OF 'zzs1752cjoin' (9).
-/
import Derived.Test.YbulkajgkFmtBuild
namespace Go.Proofs.YbulkajgkFmt
open Go.RowKit
set_option linter.unusedVariables false

theorem joinTail_snoc (sep y : List UInt8) (r : List (List UInt8)) : Lib.joinTail sep (r ++ [y]) = Lib.joinTail sep r ++ sep ++ y := by
  simp [Lib.joinTail]
theorem join_snoc (xs : List (List UInt8)) (y : List UInt8) (h : xs ≠ []) : Lib.join (xs ++ [y]) [10] = Lib.join xs [10] ++ [10] ++ y := by
  cases xs with
  | nil => exact absurd rfl h
  | cons x r => rw [List.cons_append, Lib.join_cons, Lib.join_cons, joinTail_snoc]; simp

set_option maxHeartbeats 800000 in
theorem join_any (g N cap : Nat) (W : Nat → ByteArray) (O : Nat → List UInt8) (w : World) (hN : N ≤ 1024) (hc : ∀ i, i < N → w.cell? ⟨g, i, none⟩ = some (.string (W i))) (hO : ∀ i, i < N → (W i).data.toList = O i) (hs : ∀ i, i < N → (W i).size ≤ 20000) :
    Calls Ybaf.prog 9 #[.slice (some ⟨g, 0, none⟩) N cap] w fun e w' => e = .returned (.string ⟨(Lib.join ((List.range N).map O) [10]).toArray⟩) ∧ w = w' := by
  have HC := toHid hc
  have HO := toHid hO
  have HS := toHid hs
  clear hc hO hs
  have hx1 : ((⟨#[10]⟩ : ByteArray)).size = 1 := rfl
  go_enter Ybaf.func9, Ybaf.ntmps9
  go_wp2
  go_loopg [3, 8] N (fun q s3 s8 wr => wr = w ∧ ∃ (k : Nat) (S : ByteArray), k + q = N ∧ s3 = .string S ∧ s8 = .int .i64 (k : Int) ∧ Hid (S.data.toList = Lib.join ((List.range k).map O) [10]) ∧ S.size ≤ k * 20001)
  case atStart => exact ⟨rfl, 0, ⟨#[]⟩, by omega, rfl, rfl, rfl, by decide⟩
  case round =>
    obtain ⟨rfl, k, S, hk, rfl, rfl, hS, hsz⟩ := hrel
    have hk' := toHid hk
    cases gk with
    | zero =>
      obtain rfl : k = N := by omega
      clear hk
      go_wp2
      go_ret
      exact ⟨by rw [← ba_of hS.out]; rfl, rfl⟩
    | succ t =>
      have hkN : k < N := by omega
      have l0 := HC.out k hkN
      have hsk := HS.out k hkN
      have hkz : (k : Int) < (N : Int) := by omega
      have X := toHid (HO.out k hkN)
      clear hk
      generalize W k = y at *
      cases k with
      | zero =>
        go_wp2
        go_roundg t
        case rel => exact ⟨rfl, 1, S ++ y, by have := hk'.out; omega, rfl, rfl, by show _ = _; rw [app_list, hS.out, X.out]; simp [Lib.join_nil, Lib.join_one], by rw [app_size]; omega⟩
        case measure => omega
      | succ j =>
        have hj1 : (0 : Int) < ((j + 1 : Nat) : Int) := by omega
        have hsz2 : S.size ≤ 30000000 := by omega
        go_wp2
        go_roundg t
        case rel =>
          refine ⟨rfl, j + 1 + 1, S ++ ⟨#[10]⟩ ++ y, by have := hk'.out; omega, rfl, by go_num, ?_, by rw [app_size, app_size]; omega⟩
          show _ = _
          rw [List.range_succ, List.map_append, List.map_singleton, join_snoc _ _ (by simp), app_list, app_list, hS.out, X.out]
        case measure => omega

end Go.Proofs.YbulkajgkFmt
