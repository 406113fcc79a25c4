/-
  THE WALKS OF 'space' (21), strings.indexFunc (28), strings.TrimLeftFunc (20), 'blank' (11), strings.HasPrefix (13), at the texts of this seat's laws.
-/
import Derived.Test.YbulkajgkFmtErrf
import Derived.Test.YbulkajgkFmtPlain
import Derived.WalkKit
import Derived.WalkSpells
import Derived.WalkSmall
import Derived.Deep.LoopGhost
import Derived.Lib.OthersKept
import Derived.Lib.Strings
namespace Go.Proofs.YbulkajgkFmt
open Go.RowKit
set_option linter.unusedVariables false

set_option maxHeartbeats 400000 in
theorem space_yes (c : Nat) (w : World) : Calls Ybaf.prog 21 #[.int .i32 (runeOf c : Int)] w fun e w' => e = .returned (.bool true) ∧ w = w' := by
  rcases piece_cases c with e | e | e | e
  all_goals
    rw [e.2]
    clear e
    go_enter Ybaf.func21, Ybaf.ntmps21
    go_wp2
    go_ret
    exact ⟨rfl, rfl⟩

theorem space_no (w : World) : Calls Ybaf.prog 21 #[.int .i32 120] w fun e w' => e = .returned (.bool false) ∧ w = w' := by
  go_enter Ybaf.func21, Ybaf.ntmps21
  go_wp2
  go_ret
  exact ⟨rfl, rfl⟩

set_option maxHeartbeats 800000 in
theorem index_any (s : ByteArray) (zs : List Nat) (tail : List UInt8) (w : World) (hs : s.data.toList = spc zs ++ tail) (V : Int)
    (ht : (tail = [] ∧ V = -1) ∨ ∃ r, tail = 120 :: r ∧ V = ((spc zs).length : Int)) :
    Calls Ybaf.prog 28 #[.string s, .func (.func 21) #[] #[], .bool false] w fun e w' => e = .returned (.int .i64 V) ∧ Below w.heap.size w w' := by
  have HS := toHid hs
  have hsz : s.size = (spc zs).length + tail.length := by rw [size_list, hs]; simp
  have HZ := toHid hsz
  have HT := toHid ht
  clear hs hsz ht
  go_enter Ybaf.func28, Ybaf.ntmps28
  go_wp2
  go_loopg [] zs.length (fun g wx => ∃ don todo : List Nat, Hid (zs = don ++ todo) ∧ Hid (todo.length = g) ∧ wx.heap[w.heap.size]? = some (.stringIter s (spc don).length) ∧ Below w.heap.size w wx)
  case atStart => exact ⟨[], zs, rfl, rfl, World.iter_heap w s 0, (Below.refl _ w).alloc (Nat.le_refl _) _⟩
  case round =>
    obtain ⟨don, todo, hz, hl, hit, hbw⟩ := hrel
    have h1 := HS.out
    have h2 := HZ.out
    rw [hz.out] at h1 h2
    cases todo with
    | cons c rest =>
      rw [spc_append] at h1 h2
      simp only [spc] at h1 h2
      have hd := decode_piece s (spc don) (spc rest ++ tail) c (by rw [h1]; simp)
      have hpl := piece_length c
      have hps : (spc don).length < s.size := by rw [h2]; simp; omega
      have hnx : ∀ ty, (Instr.next (.pointer (some ⟨w.heap.size, 0, none⟩)) true ty).run Ybaf.prog wr = _ := fun ty => Lib.run_next_any_at wr w.heap.size s (spc don).length ty hit hps
      have hit2 := Lib.iterAt_heap wr w.heap.size s (spc don).length ((spc don).length + (piece c).length) hit
      have hbw2 := Lib.below_iterAt hbw (k := w.heap.size) (Nat.le_refl _) s ((spc don).length + (piece c).length)
      rw [hd] at hnx
      have X := toHid (And.intro hit2 hbw2)
      obtain ⟨W, hWd⟩ : ∃ W, wr.iterAt w.heap.size s ((spc don).length + (piece c).length) = W := ⟨_, rfl⟩
      rw [hWd] at hnx X
      clear h1 h2 hd hpl hit2 hbw2 hWd hit hbw hps
      go_wp2_with (go_at_call 21; refine (space_yes c _).mono ?_; rintro e w' ⟨rfl, rfl⟩)
      go_roundg rest.length
      case rel => exact ⟨don ++ [c], rest, by show _ = _; rw [hz.out]; simp, rfl, by rw [show (spc (don ++ [c])).length = (spc don).length + (piece c).length by rw [spc_append]; simp [spc]]; exact X.out.1, X.out.2⟩
      case measure => have := hl.out; simp at this; omega
    | nil =>
      simp only [List.append_nil] at h1 h2
      have hz2 : zs = don := by have := hz.out; simpa using this
      rcases HT.out with ⟨he, hV⟩ | ⟨r, he, hV⟩
      · have hps : ¬ (spc don).length < s.size := by rw [h2, he]; simp
        have hnx : ∀ ty, (Instr.next (.pointer (some ⟨w.heap.size, 0, none⟩)) true ty).run Ybaf.prog wr = _ := fun ty => Lib.run_next_end_at wr w.heap.size s (spc don).length ty hit hps
        have HE := toHid hV
        clear h1 h2 hz2 he hps hit hV
        go_wp2
        go_ret
        exact ⟨by rw [HE.out]; rfl, hbw⟩
      · rw [he] at h1 h2
        have hd := decode_ascii s (spc don) r 120 h1 (by decide)
        have hps : (spc don).length < s.size := by rw [h2]; simp
        have hnx : ∀ ty, (Instr.next (.pointer (some ⟨w.heap.size, 0, none⟩)) true ty).run Ybaf.prog wr = _ := fun ty => Lib.run_next_any_at wr w.heap.size s (spc don).length ty hit hps
        have hbw2 := Lib.below_iterAt hbw (k := w.heap.size) (Nat.le_refl _) s ((spc don).length + 1)
        rw [hd] at hnx
        have e120 : ((UInt8.toNat 120 : Nat) : Int) = 120 := by decide
        simp only [e120] at hnx
        have X := toHid hbw2
        have HE := toHid (show V = ((spc don).length : Int) by rw [hV, hz2])
        obtain ⟨W, hWd⟩ : ∃ W, wr.iterAt w.heap.size s ((spc don).length + 1) = W := ⟨_, rfl⟩
        rw [hWd] at hnx X
        clear h1 h2 hz2 he hV hps hit hbw hbw2 hd hWd e120
        go_wp2_with (go_at_call 21; refine (space_no _).mono ?_; rintro e w' ⟨rfl, rfl⟩)
        go_ret
        exact ⟨by rw [HE.out]; rfl, X.out⟩

/-- strings.TrimLeftFunc(s, space): all of it spaces; or an 'x' behind them -/
theorem trim_all (s : ByteArray) (zs : List Nat) (w : World) (hs : s.data.toList = spc zs) :
    Calls Ybaf.prog 20 #[.string s, .func (.func 21) #[] #[]] w fun e w' => e = .returned (.string ⟨#[]⟩) ∧ Below w.heap.size w w' := by
  have c := toHid (index_any s zs [] w (by simpa using hs) (-1) (.inl ⟨rfl, rfl⟩))
  clear hs
  go_enter Ybaf.func20, Ybaf.ntmps20
  go_wp2_with (go_at_call 28; refine c.out.mono ?_; rintro e w' ⟨rfl, hb⟩)
  go_ret
  exact ⟨rfl, hb⟩
theorem trim_x (s : ByteArray) (zs : List Nat) (r : List UInt8) (w : World) (hs : s.data.toList = spc zs ++ 120 :: r) (hsz : s.size ≤ 1000000) :
    Calls Ybaf.prog 20 #[.string s, .func (.func 21) #[] #[]] w fun e w' => e = .returned (.string (s.extract (spc zs).length s.size)) ∧ Below w.heap.size w w' := by
  have c := toHid (index_any s zs (120 :: r) w hs _ (.inr ⟨r, rfl, rfl⟩))
  have hl : (spc zs).length < s.size := by rw [size_list, hs]; simp
  clear hs
  generalize (spc zs).length = k at *
  go_enter Ybaf.func20, Ybaf.ntmps20
  go_wp2_with (go_at_call 28; refine c.out.mono ?_; rintro e w' ⟨rfl, hb⟩)
  go_ret
  exact ⟨rfl, hb⟩

theorem extract_ne (s : ByteArray) (k : Nat) (h : k < s.size) : (s.extract k s.size).toList.isEmpty = false := by
  have h1 : (s.extract k s.size).toList.length = s.size - k := by
    rw [ByteArray.toList_eq, Array.length_toList]
    show (s.extract k s.size).size = _
    rw [ByteArray.size_extract]
    omega
  cases e : (s.extract k s.size).toList with
  | nil => rw [e] at h1; simp at h1; omega
  | cons a b => rfl

/-- 'blank': an escape: no · all spaces: yes · an 'x' behind the spaces: no -/
theorem blank_esc (s : ByteArray) (esc line : Int) (w : World) (h : 0 ≤ esc) :
    Calls Ybaf.prog 11 #[.agg #[.string s, .int .i64 esc, .int .i64 line]] w fun e w' => e = .returned (.bool false) ∧ Below w.heap.size w w' := by
  go_enter Ybaf.func11, Ybaf.ntmps11
  go_wp2_with fail
  go_ret
  exact ⟨rfl, (Below.refl _ _).alloc (Nat.le_refl _) _⟩
theorem blank_all (s : ByteArray) (zs : List Nat) (esc line : Int) (w : World) (hs : s.data.toList = spc zs) (h : esc < 0) :
    Calls Ybaf.prog 11 #[.agg #[.string s, .int .i64 esc, .int .i64 line]] w fun e w' => e = .returned (.bool true) ∧ Below w.heap.size w w' := by
  have c := toHid (fun w => trim_all s zs w hs)
  clear hs
  go_enter Ybaf.func11, Ybaf.ntmps11
  go_wp2_with (go_at_call 20; refine (c.out _).mono ?_; rintro e w' ⟨rfl, hb⟩)
  go_ret
  exact ⟨rfl, ((Below.refl _ _).alloc (Nat.le_refl _) _).trans (hb.mono (by simp))⟩
theorem blank_x (s : ByteArray) (zs : List Nat) (r : List UInt8) (esc line : Int) (w : World) (hs : s.data.toList = spc zs ++ 120 :: r) (hsz : s.size ≤ 1000000) (h : esc < 0) :
    Calls Ybaf.prog 11 #[.agg #[.string s, .int .i64 esc, .int .i64 line]] w fun e w' => e = .returned (.bool false) ∧ Below w.heap.size w w' := by
  have c := toHid (fun w => trim_x s zs r w hs hsz)
  have hne := extract_ne s (spc zs).length (by rw [size_list, hs]; simp)
  clear hs
  generalize s.extract (spc zs).length s.size = t at *
  go_enter Ybaf.func11, Ybaf.ntmps11
  go_wp2_with (go_at_call 20; refine (c.out _).mono ?_; rintro e w' ⟨rfl, hb⟩)
  go_ret
  exact ⟨rfl, ((Below.refl _ _).alloc (Nat.le_refl _) _).trans (hb.mono (by simp))⟩

/-- strings.HasPrefix -/
theorem has_yes (s p : ByteArray) (r : List UInt8) (w : World) (h : s.data.toList = p.data.toList ++ r) (hsz : s.size ≤ 1000000) :
    Calls Ybaf.prog 13 #[.string s, .string p] w fun e w' => e = .returned (.bool true) ∧ w = w' := by
  have h1 : p.size ≤ s.size := by rw [size_list, size_list, h]; simp
  have h2 : ((s.extract 0 p.size).toList == p.toList) = true := by
    rw [ByteArray.toList_eq, ByteArray.toList_eq, Lib.extract_data, h, size_list]
    simp
  clear h
  go_enter Ybaf.func13, Ybaf.ntmps13
  go_wp2
  go_ret
  exact ⟨rfl, rfl⟩
theorem has_no (s p : ByteArray) (w : World) (h : (p.data.toList.isPrefixOf s.data.toList) = false) (hsz : s.size ≤ 1000000) :
    Calls Ybaf.prog 13 #[.string s, .string p] w fun e w' => e = .returned (.bool false) ∧ w = w' := by
  by_cases h1 : p.size ≤ s.size
  · have h2 : ((s.extract 0 p.size).toList == p.toList) = false := by
      rw [ByteArray.toList_eq, ByteArray.toList_eq, Lib.extract_data, size_list]
      simp only [List.drop_zero, Nat.sub_zero]
      cases e : (s.data.toList.take p.data.toList.length == p.data.toList) with
      | false => rfl
      | true =>
        have e1 : s.data.toList.take p.data.toList.length = p.data.toList := by simpa using e
        have e2 : p.data.toList <+: s.data.toList := by rw [← e1]; exact List.take_prefix _ _
        rw [← List.isPrefixOf_iff_prefix] at e2
        rw [h] at e2
        cases e2
    clear h
    go_enter Ybaf.func13, Ybaf.ntmps13
    go_wp2
    go_ret
    exact ⟨rfl, rfl⟩
  · clear h
    go_enter Ybaf.func13, Ybaf.ntmps13
    go_wp2
    go_ret
    exact ⟨rfl, rfl⟩

end Go.Proofs.YbulkajgkFmt
