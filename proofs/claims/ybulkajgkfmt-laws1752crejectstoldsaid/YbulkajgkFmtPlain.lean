/-
  PLAIN: runs of the four spaces as bytes, and how they decode; no walk.
-/
import GoSem.Core.Utf8
namespace Go.Proofs.YbulkajgkFmt

def piece (c : Nat) : List UInt8 := if c % 4 = 0 then [32] else if c % 4 = 1 then [9] else if c % 4 = 2 then [194, 160] else [227, 128, 128]
def runeOf (c : Nat) : Nat := if c % 4 = 0 then 32 else if c % 4 = 1 then 9 else if c % 4 = 2 then 160 else 12288
def spc : List Nat → List UInt8
  | [] => []
  | c :: cs => piece c ++ spc cs

theorem piece_cases (c : Nat) : (piece c = [32] ∧ runeOf c = 32) ∨ (piece c = [9] ∧ runeOf c = 9) ∨ (piece c = [194, 160] ∧ runeOf c = 160) ∨ (piece c = [227, 128, 128] ∧ runeOf c = 12288) := by
  unfold piece runeOf
  by_cases h0 : c % 4 = 0
  · rw [if_pos h0, if_pos h0]; exact .inl ⟨rfl, rfl⟩
  · by_cases h1 : c % 4 = 1
    · rw [if_neg h0, if_neg h0, if_pos h1, if_pos h1]; exact .inr (.inl ⟨rfl, rfl⟩)
    · by_cases h2 : c % 4 = 2
      · rw [if_neg h0, if_neg h0, if_neg h1, if_neg h1, if_pos h2, if_pos h2]; exact .inr (.inr (.inl ⟨rfl, rfl⟩))
      · rw [if_neg h0, if_neg h0, if_neg h1, if_neg h1, if_neg h2, if_neg h2]; exact .inr (.inr (.inr ⟨rfl, rfl⟩))

theorem piece_length (c : Nat) : 1 ≤ (piece c).length ∧ (piece c).length ≤ 3 := by
  rcases piece_cases c with h | h | h | h <;> rw [h.1] <;> simp

theorem spc_append : ∀ a b, spc (a ++ b) = spc a ++ spc b
  | [], b => rfl
  | c :: a, b => by simp [spc, spc_append a b]
theorem spc_length : ∀ a, (spc a).length ≤ 3 * a.length
  | [] => by simp [spc]
  | c :: a => by have := spc_length a; have := piece_length c; simp [spc]; omega
theorem spc_pos : ∀ a, a ≠ [] → 1 ≤ (spc a).length
  | [], h => absurd rfl h
  | c :: a, _ => by have := piece_length c; simp [spc]; omega
theorem spc_zeros : ∀ n, spc (List.replicate n 0) = List.replicate n 32
  | 0 => rfl
  | n + 1 => by rw [List.replicate_succ, List.replicate_succ, spc, spc_zeros n]; rfl
/-- no run of spaces begins with an 'x' -/
theorem spc_head (a : List Nat) (x : UInt8) (r : List UInt8) (h : spc a = x :: r) : x = 32 ∨ x = 9 ∨ x = 194 ∨ x = 227 := by
  cases a with
  | nil => simp [spc] at h
  | cons c a =>
    simp only [spc] at h
    rcases piece_cases c with e | e | e | e <;> rw [e.1] at h <;> simp at h <;> simp [← h.1]

theorem get_at (s : ByteArray) (A R : List UInt8) (x : UInt8) (h : s.data.toList = A ++ x :: R) : s.get! A.length = x := by
  have h1 : s.data[A.length]? = some x := by
    rw [← Array.getElem?_toList, h, List.getElem?_append_right (Nat.le_refl _)]
    simp
  show s.data[A.length]! = x
  rw [Array.getElem!_eq_getD, Array.getD_eq_getD_getElem?, h1]
  rfl
theorem size_list (s : ByteArray) : s.size = s.data.toList.length := by rw [Array.length_toList]; rfl

theorem decode_ascii (s : ByteArray) (A R : List UInt8) (x : UInt8) (h : s.data.toList = A ++ x :: R) (hx : x.toNat < 128) : Utf8.decode s A.length = (x.toNat, 1) := by
  have g := get_at s A R x h
  unfold Utf8.decode
  simp only [Nat.add_zero, g]
  rw [if_pos hx]

theorem decode_piece (s : ByteArray) (A R : List UInt8) (c : Nat) (h : s.data.toList = A ++ (piece c ++ R)) : Utf8.decode s A.length = (runeOf c, (piece c).length) := by
  rcases piece_cases c with e | e | e | e
  · rw [e.1] at h ⊢
    rw [e.2, decode_ascii s A R 32 (by simpa using h) (by decide)]
    rfl
  · rw [e.1] at h ⊢
    rw [e.2, decode_ascii s A R 9 (by simpa using h) (by decide)]
    rfl
  · rw [e.1] at h ⊢
    rw [e.2]
    have g0 := get_at s A (160 :: R) 194 (by simpa using h)
    have g1 := get_at s (A ++ [194]) R 160 (by simpa using h)
    have hs : A.length + 1 < s.size := by rw [size_list, h]; simp
    simp only [List.length_append, List.length_cons, List.length_nil, Nat.zero_add] at g1
    unfold Utf8.decode
    simp only [Nat.add_zero, g0, g1, hs, decide_true]
    rfl
  · rw [e.1] at h ⊢
    rw [e.2]
    have g0 := get_at s A (128 :: 128 :: R) 227 (by simpa using h)
    have g1 := get_at s (A ++ [227]) (128 :: R) 128 (by simpa using h)
    have g2 := get_at s (A ++ [227, 128]) R 128 (by simpa using h)
    have hs : A.length + 1 < s.size := by rw [size_list, h]; simp
    have hs2 : A.length + 2 < s.size := by rw [size_list, h]; simp
    simp only [List.length_append, List.length_cons, List.length_nil, Nat.zero_add] at g1 g2
    unfold Utf8.decode
    simp only [Nat.add_zero, g0, g1, g2, hs, hs2, decide_true]
    rw [if_neg (by decide), if_neg (by decide), if_pos (by decide), if_pos (by decide +kernel)]
    decide +kernel

end Go.Proofs.YbulkajgkFmt
