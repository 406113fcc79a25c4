/-
  THE WALK OF 'zzs1750alcs' (8): the length of a longest common subsequence, two rows in turn.
-/
import Derived.Test.YbulkajfiProg
import Derived.Test.YbulkajfiMyers
import Derived.WalkKit
import Derived.WalkSpells
import Derived.WalkSmall
import Derived.Deep.LoopGhost
import Derived.Deep.OwnRows
import Derived.Deep.QuietTactic
import Derived.BigQuiet
import Derived.Below
namespace Go.Proofs.Ybulkajfi
open Go.RowKit
set_option linter.unusedVariables false

theorem Yba.info3 : (Yba.prog.info? 3).map (fun i => (i.zero, i.size, i.bytes)) = some (some (.int .i64 0), 1, 8) := by kernel_rfl

/-- what the walks are told of the two rows of strings -/
structure Two (w : World) (A B : Nat → ByteArray) (ga gb n m : Nat) : Prop where
  ca : ∀ i, i < n → w.cell? ⟨ga, i, none⟩ = some (.string (A i))
  cb : ∀ i, i < m → w.cell? ⟨gb, i, none⟩ = some (.string (B i))

theorem Two.later {w w' : World} {A B : Nat → ByteArray} {ga gb n m : Nat} (h : Two w A B ga gb n m) (hb : Below w.heap.size w w') : Two w' A B ga gb n m :=
  ⟨fun i hi => (hb.cell (p := ⟨ga, i, none⟩) (World.block_lt_of_cell? _ _ (h.ca i hi))).trans (h.ca i hi), fun i hi => (hb.cell (p := ⟨gb, i, none⟩) (World.block_lt_of_cell? _ _ (h.cb i hi))).trans (h.cb i hi)⟩

/-- at the outer loop's head: k rows are reckoned; the last one lies in block p, c is the other -/
structure LcsOut (w wr : World) (T : Nat → Nat → Nat) (m k p c : Nat) : Prop where
  below : Below w.heap.size w wr
  hp : w.heap.size ≤ p
  hc : w.heap.size ≤ c
  ne : p ≠ c
  prev : wr.rowIs p 3 (m + 1) (fun j => .int .i64 (T k j : Int))
  cur : ∃ X : Nat → Int, wr.rowIs c 3 (m + 1) (fun j => .int .i64 (X j))
/-- at the inner loop's: of row k + 1 the entries up to t -/
structure LcsIn (w wr : World) (T : Nat → Nat → Nat) (m k p c t : Nat) : Prop where
  below : Below w.heap.size w wr
  hp : w.heap.size ≤ p
  hc : w.heap.size ≤ c
  ne : p ≠ c
  prev : wr.rowIs p 3 (m + 1) (fun j => .int .i64 (T k j : Int))
  cur : ∃ X : Nat → Int, wr.rowIs c 3 (m + 1) (fun j => .int .i64 (X j)) ∧ ∀ j, j ≤ t → X j = (T (k + 1) j : Int)

theorem lcs_start (w : World) (T : Nat → Nat → Nat) (hT : ∀ j, T 0 j = 0) (m : Nat) :
    LcsOut w ((w.alloc (.cells (madeCells #[.int .i64 0] (m + 1)) 3)).alloc (.cells (madeCells #[.int .i64 0] (m + 1)) 3)) T m 0 w.heap.size (w.heap.size + 1) := by
  refine ⟨((Below.refl _ _).alloc (Nat.le_refl _) _).alloc (by simp) _, Nat.le_refl _, by omega, by omega, ?_, ⟨fun _ => 0, ?_⟩⟩
  · exact ((World.rowIs_made w (.int .i64 0) (m + 1) 3).alloc _).congr (fun j _ => by rw [hT j]; rfl)
  · have h := World.rowIs_made (w.alloc (.cells (madeCells #[.int .i64 0] (m + 1)) 3)) (.int .i64 0) (m + 1) 3
    rw [Deep.nblk_alloc] at h
    exact h
theorem lcs_in {w wr : World} {T : Nat → Nat → Nat} {m k p c : Nat} (h : LcsOut w wr T m k p c) (hT : T (k + 1) 0 = 0) : LcsIn w (wr.setCell ⟨c, 0, none⟩ (.int .i64 0)) T m k p c 0 := by
  obtain ⟨X, hX⟩ := h.cur
  refine ⟨h.below.setCell h.hc _, h.hp, h.hc, h.ne, h.prev.setOther h.ne _, ⟨fun j => if j = 0 then 0 else X j, (hX.set 0 _).congr (fun j _ => ?_), fun j hj => ?_⟩⟩
  · show (if j = 0 then Value.int .i64 0 else .int .i64 (X j)) = .int .i64 (if j = 0 then 0 else X j)
    split <;> rfl
  · obtain rfl : j = 0 := by omega
    show (if 0 = 0 then (0 : Int) else X 0) = _
    rw [if_pos rfl, hT]; rfl
theorem lcs_step {w wr : World} {T : Nat → Nat → Nat} {m k p c t : Nat} (h : LcsIn w wr T m k p c t) (u : Int) (hu : u = (T (k + 1) (t + 1) : Int)) : LcsIn w (wr.setCell ⟨c, t + 1, none⟩ (.int .i64 u)) T m k p c (t + 1) := by
  obtain ⟨X, hX, hx⟩ := h.cur
  refine ⟨h.below.setCell h.hc _, h.hp, h.hc, h.ne, h.prev.setOther h.ne _, ⟨fun j => if j = t + 1 then u else X j, (hX.set (t + 1) _).congr (fun j _ => ?_), fun j hj => ?_⟩⟩
  · show (if j = t + 1 then Value.int .i64 u else .int .i64 (X j)) = .int .i64 (if j = t + 1 then u else X j)
    split <;> rfl
  · show (if j = t + 1 then u else X j) = _
    by_cases e : j = t + 1
    · subst e; rw [if_pos rfl, hu]
    · rw [if_neg e]; exact hx j (by omega)
theorem lcs_done {w wr : World} {T : Nat → Nat → Nat} {m k p c : Nat} (h : LcsIn w wr T m k p c m) : LcsOut w wr T m (k + 1) c p := by
  obtain ⟨X, hX, hx⟩ := h.cur
  exact ⟨h.below, h.hc, h.hp, h.ne.symm, hX.congr (fun j hj => by rw [hx j (by omega)]), ⟨_, h.prev⟩⟩

theorem bytes_eq {a b : ByteArray} (h : (a.toList == b.toList) = true) : a = b := by
  have h1 : a.toList = b.toList := by simpa using h
  rw [ByteArray.toList_eq, ByteArray.toList_eq] at h1
  exact ByteArray.ext (Array.toList_inj.1 h1)
theorem lcs_drew {w wr : World} {T : Nat → Nat → Nat} {m k p c t : Nat} (h : LcsIn w wr T m k p c t) (n : Nat) : LcsIn w (wr.drewN n) T m k p c t :=
  ⟨below_drewN h.below n, h.hp, h.hc, h.ne, h.prev, h.cur⟩
theorem ih_add (a : Nat) : ((a + 1 : Nat) : Int) = (a : Int) + 1 := by omega
theorem bytes_ne {a b : ByteArray} (h : a ≠ b) : (a.toList == b.toList) = false := by
  cases e : (a.toList == b.toList) with
  | false => rfl
  | true => exact absurd (bytes_eq e) h

set_option maxHeartbeats 800000 in
theorem lcs_any (A B : Nat → ByteArray) (ga gb n m ca cb : Nat) (w : World) (hn : n ≤ 300) (hm : m ≤ 300) (h2 : Two w A B ga gb n m) :
    Calls Yba.prog 8 #[.slice (some ⟨ga, 0, none⟩) n ca, .slice (some ⟨gb, 0, none⟩) m cb] w fun e w' => e = .returned (.int .i64 (Myers.lcsTab A B n m : Int)) ∧ Below w.heap.size w w' := by
  have hmk := run_make_row' (P := Yba.prog) 39 3 (.int .i64 0) 8 Yba.underlying39 Yba.info3 rfl .i64 .i64 (m + 1) (by omega) (by omega)
  have ec : ((m + 1 : Nat) : Int) = (m : Int) + 1 := by omega
  rw [ec] at hmk
  clear ec
  obtain ⟨T, hT⟩ : ∃ T, T = Myers.lcsTab A B := ⟨_, rfl⟩
  have HT := (show Hid (T = Myers.lcsTab A B) from hT)
  have T0 : ∀ j, T 0 j = 0 := fun j => by rw [hT]; rfl
  have TL : ∀ i, T i 0 = 0 := fun i => by rw [hT]; exact Myers.tab_left A B i
  have TS : ∀ i j, T (i + 1) (j + 1) = if A i = B j then T i j + 1 else max (T i (j + 1)) (T (i + 1) j) := fun i j => by rw [hT]; exact Myers.tab_step A B i j
  have TB : ∀ i j, T i j ≤ i ∧ T i j ≤ j := fun i j => by rw [hT]; exact Myers.tab_le A B i j
  have HS := (show Hid _ from TS)
  rw [← hT]
  clear hT TS
  have hL0 := lcs_start w T T0 m
  clear T0
  go_enter Yba.func8, Yba.ntmps8
  go_wp2
  clear hmk
  go_loopg [5, 6, 7] n (fun g s5 s6 s7 wr => ∃ k p c : Nat, k + g = n ∧ s5 = .slice (some ⟨p, 0, none⟩) (m + 1) (m + 1) ∧ s6 = .slice (some ⟨c, 0, none⟩) (m + 1) (m + 1) ∧ s7 = .int .i64 ((k : Int) + 1) ∧ LcsOut w wr T m k p c)
  case atStart => exact ⟨0, _, _, by omega, rfl, rfl, rfl, hL0⟩
  case round =>
    clear hL0
    obtain ⟨k, p, c, hk, rfl, rfl, rfl, hO⟩ := hrel
    cases gk with
    | zero =>
      obtain rfl : k = n := by omega
      have c1 := hO.prev.cell (i := m) (by omega)
      have hb := hO.below
      clear hO
      go_wp2
      go_ret
      exact ⟨rfl, hb⟩
    | succ t =>
      have hkn : k < n := by omega
      have c1 : ∃ v, wr.cell? ⟨c, 0, none⟩ = some v := by obtain ⟨X, hX⟩ := hO.cur; exact ⟨_, hX.cell (by omega)⟩
      obtain ⟨v1, c1⟩ := c1
      have c2 : wr.frozen? ⟨c, 0, none⟩ = false := by obtain ⟨X, hX⟩ := hO.cur; exact hX.frozen 0
      have hI0 := lcs_in hO (TL (k + 1))
      clear hO
      go_wp2
      clear c1 c2
      go_loopg [8] m (fun g s8 wi => ∃ t : Nat, t + g = m ∧ s8 = .int .i64 ((t : Int) + 1) ∧ LcsIn w wi T m k p c t)
      case atStart => exact ⟨0, by omega, rfl, hI0⟩
      case round =>
        clear hI0
        obtain ⟨j, hj, rfl, hI⟩ := hrel
        cases gk with
        | zero =>
          obtain rfl : j = m := by omega
          have hO := lcs_done hI
          clear hI
          go_wp2
          go_roundg t
          case rel => exact ⟨k + 1, c, p, by omega, rfl, rfl, by go_num, hO⟩
          case measure => omega
        | succ q =>
          have hjm : j < m := by omega
          have h2r := h2.later hI.below
          have ka := h2r.ca k hkn
          have kb := h2r.cb j hjm
          have kp := hI.prev.cell (i := j) (by omega)
          have kq := hI.prev.cell (i := j + 1) (by omega)
          have kc : wr.cell? ⟨c, j, none⟩ = some (.int .i64 (T (k + 1) j : Int)) := by
            obtain ⟨X, hX, hx⟩ := hI.cur
            have := hX.cell (i := j) (by omega)
            rw [hx j (by omega)] at this
            exact this
          have kd : ∃ v, wr.cell? ⟨c, j + 1, none⟩ = some v := by obtain ⟨X, hX, _⟩ := hI.cur; exact ⟨_, hX.cell (by omega)⟩
          obtain ⟨vd, kd⟩ := kd
          have ke : wr.frozen? ⟨c, j + 1, none⟩ = false := by obtain ⟨X, hX, _⟩ := hI.cur; exact hX.frozen (j + 1)
          have b1 := (TB k j).1
          have b2 := (TB k (j + 1)).1
          have b3 := (TB (k + 1) j).1
          have step := HS.out k j
          have HI := (show Hid (LcsIn w wr T m k p c j) from hI)
          clear h2r hI
          by_cases e : A k = B j
          · rw [if_pos e] at step
            have HE := (show Hid (T (k + 1) (j + 1) = T k j + 1) from step)
            clear step
            go_wp2
            go_quiet (fail)
            go_wp2
            go_roundg q
            case rel => exact ⟨j + 1, by omega, by go_num, lcs_step (lcs_drew HI.out _) _ (by rw [HE.out]; exact (ih_add _).symm)⟩
            case measure => omega
          · rw [if_neg e] at step
            have en := bytes_ne e
            clear e
            by_cases hle : T (k + 1) j ≤ T k (j + 1)
            · have HE := (show Hid (T (k + 1) (j + 1) = T k (j + 1)) from by show _ = _; omega)
              clear step
              have hle2 : (T (k + 1) j : Int) ≤ (T k (j + 1) : Int) := by omega
              go_wp2
              go_quiet (fail)
              go_wp2
              go_quiet (fail)
              go_wp2
              go_roundg q
              case rel => exact ⟨j + 1, by omega, by go_num, lcs_step (lcs_drew HI.out _) _ (by rw [HE.out])⟩
              case measure => omega
            · have HE := (show Hid (T (k + 1) (j + 1) = T (k + 1) j) from by show _ = _; omega)
              clear step
              have hle2 : (T k (j + 1) : Int) < (T (k + 1) j : Int) := by omega
              clear hle
              go_wp2
              go_quiet (fail)
              go_wp2
              go_quiet (fail)
              go_wp2
              go_roundg q
              case rel => exact ⟨j + 1, by omega, by go_num, lcs_step (lcs_drew HI.out _) _ (by rw [HE.out])⟩
              case measure => omega

end Go.Proofs.Ybulkajfi
