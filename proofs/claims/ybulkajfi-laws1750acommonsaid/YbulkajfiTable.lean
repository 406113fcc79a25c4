/-
  WHAT THE WALK OF 'zzs1750agraph' (6) LEANS ON, without the walk: the plain entries before their runs; the rows in memory.
-/
import Derived.Test.YbulkajfiSmall
import Derived.Test.YbulkajfiLcs
import Derived.OneCell
namespace Go.Proofs.Ybulkajfi
open Go.RowKit
set_option linter.unusedVariables false

/-! ### Plain -/
section
variable (A B : Nat → ByteArray) (n m : Nat)
/-- an entry before its run -/
def ahead : Nat → Nat → Int
  | 0, _ => 0
  | d + 1, i => Myers.pick n m (Myers.look (Myers.reach A B n m d) d (2 * (i : Int) - (d + 1) + 1)) (Myers.look (Myers.reach A B n m d) d (2 * (i : Int) - (d + 1) - 1)) (2 * (i : Int) - (d + 1))

theorem reach_ahead (d i : Nat) (hi : i ≤ d) : Myers.reach A B n m d i = Myers.fill A B n m (ahead A B n m d i) (2 * (i : Int) - d) := by
  cases d with
  | zero => obtain rfl : i = 0 := by omega
            rfl
  | succ d =>
    have e : 2 * (i : Int) - ((d + 1 : Nat) : Int) = 2 * (i : Int) - (d + 1) := by omega
    rw [e]
    rfl

theorem look_ok (d : Nat) (k : Int) (i : Nat) (hi : i ≤ d) (hk : k = 2 * (i : Int) - d) : Myers.look (Myers.reach A B n m d) d k = -1 ∨ Myers.Good A B n m d k (Myers.look (Myers.reach A B n m d) d k) := by
  subst hk
  rw [Myers.look_in _ _ _ hi]
  exact Myers.entry_ok A B n m d i hi

theorem ahead_ok (d i : Nat) (hi : i ≤ d) : ahead A B n m d i = -1 ∨ (0 ≤ ahead A B n m d i ∧ ahead A B n m d i ≤ n ∧ 0 ≤ ahead A B n m d i - (2 * (i : Int) - d) ∧ ahead A B n m d i - (2 * (i : Int) - d) ≤ m) := by
  cases d with
  | zero => obtain rfl : i = 0 := by omega
            right
            show (0 : Int) ≤ 0 ∧ (0 : Int) ≤ n ∧ (0 : Int) ≤ 0 - (2 * ((0 : Nat) : Int) - ((0 : Nat) : Int)) ∧ (0 : Int) - (2 * ((0 : Nat) : Int) - ((0 : Nat) : Int)) ≤ m
            omega
  | succ d =>
    have hp : Myers.look (Myers.reach A B n m d) d (2 * (i : Int) - (d + 1) + 1) = -1 ∨ Myers.Good A B n m d (2 * (i : Int) - (d + 1) + 1) (Myers.look (Myers.reach A B n m d) d (2 * (i : Int) - (d + 1) + 1)) := by
      by_cases h : i ≤ d
      · exact look_ok A B n m d _ i h (by omega)
      · left; exact Myers.look_out _ _ _ (by omega)
    have hq : Myers.look (Myers.reach A B n m d) d (2 * (i : Int) - (d + 1) - 1) = -1 ∨ Myers.Good A B n m d (2 * (i : Int) - (d + 1) - 1) (Myers.look (Myers.reach A B n m d) d (2 * (i : Int) - (d + 1) - 1)) := by
      by_cases h : 1 ≤ i
      · exact look_ok A B n m d _ (i - 1) (by omega) (by omega)
      · left; exact Myers.look_out _ _ _ (by omega)
    have e : 2 * (i : Int) - ((d + 1 : Nat) : Int) = 2 * (i : Int) - (d + 1) := by omega
    rw [e]
    rcases Myers.pick_ok A B n m d _ _ _ hp hq with h | h
    · left; exact h
    · right; exact ⟨h.1, h.2.1, h.2.2.1, h.2.2.2.1⟩

theorem reach_bd (d i : Nat) (hi : i ≤ d) : -1 ≤ Myers.reach A B n m d i ∧ Myers.reach A B n m d i ≤ n := by
  rcases Myers.entry_ok A B n m d i hi with h | h
  · rw [h]; omega
  · have h1 := h.1; have h2 := h.2.1; omega

theorem goes_nat (x y : Nat) (k : Int) (hk : (x : Int) - k = y) : Myers.goes A B n m x k = true ↔ x < n ∧ y < m ∧ A x = B y := by
  rw [Myers.goes_iff, hk, Int.toNat_natCast, Int.toNat_natCast, Int.ofNat_lt, Int.ofNat_lt]
theorem snake_on (f x y : Nat) (k : Int) (hk : (x : Int) - k = y) (h1 : x < n) (h2 : y < m) (h3 : A x = B y) : Myers.snake A B n m (f + 1) x k = Myers.snake A B n m f ((x : Int) + 1) k :=
  Myers.snake_go A B n m f x k ((goes_nat A B n m x y k hk).2 ⟨h1, h2, h3⟩)
theorem snake_end (f x y : Nat) (k : Int) (hk : (x : Int) - k = y) (h : ¬ (x < n ∧ y < m ∧ A x = B y)) : Myers.snake A B n m f x k = x := by
  apply Myers.snake_stop
  cases e : Myers.goes A B n m x k with
  | false => rfl
  | true => exact absurd ((goes_nat A B n m x y k hk).1 e) h
end

/-! ### Memory -/
def rowsOf (rb : Nat → Nat) : Nat → List Value
  | 0 => []
  | d + 1 => rowsOf rb d ++ [.slice (some ⟨rb d, 0, none⟩) (d + 1) (d + 1)]
theorem rowsOf_length (rb : Nat → Nat) : ∀ d, (rowsOf rb d).length = d
  | 0 => rfl
  | d + 1 => by simp [rowsOf, rowsOf_length rb d]
theorem rowsOf_congr (rb rb' : Nat → Nat) : ∀ d, (∀ j, j < d → rb j = rb' j) → rowsOf rb d = rowsOf rb' d
  | 0, _ => rfl
  | d + 1, h => by simp only [rowsOf]; rw [rowsOf_congr rb rb' d (fun j hj => h j (by omega)), h d (by omega)]
theorem rowsOf_at (rb : Nat → Nat) : ∀ d j, j < d → (rowsOf rb d)[j]? = some (.slice (some ⟨rb j, 0, none⟩) (j + 1) (j + 1))
  | 0, j, h => by omega
  | d + 1, j, h => by
    simp only [rowsOf]
    by_cases e : j < d
    · rw [List.getElem?_append_left (by rw [rowsOf_length]; exact e)]; exact rowsOf_at rb d j e
    · obtain rfl : j = d := by omega
      rw [List.getElem?_append_right (by rw [rowsOf_length]; exact Nat.le_refl _), rowsOf_length]
      simp

/-- d rows of the table, in memory of the call's own -/
structure Tab (B : Nat) (F : Nat → Nat → Int) (d : Nat) (rb : Nat → Nat) (v : Value) (wr : World) : Prop where
  own : wr.ownsRow B 39 1 v d (rowsOf rb d)
  rows : ∀ j, j < d → B ≤ rb j ∧ wr.rowIs (rb j) 3 (j + 1) (fun i => .int .i64 (F j i))

/-- no row of ints is the row of slices -/
theorem own_ne {w : World} {B : Nat} {v : Value} {d n : Nat} {xs : List Value} {b : Nat} {f : Nat → Value} (h : w.ownsRow B 39 1 v d xs) (hr : w.rowIs b 3 n f) : v.ownBlock ≠ some b := by
  intro e
  rcases h.2 with ⟨rfl, _⟩ | ⟨g, cap, cur, rfl, _, hg, _⟩
  · simp [Value.ownBlock] at e
  · simp [Value.ownBlock] at e
    subst e
    obtain ⟨c, hc, _⟩ := hr
    rw [hg] at hc
    simp at hc

theorem Tab.alloc {B : Nat} {F : Nat → Nat → Int} {d : Nat} {rb : Nat → Nat} {v : Value} {wr : World} (h : Tab B F d rb v wr) (o : Obj) : Tab B F d rb v (wr.alloc o) :=
  ⟨h.own.alloc o, fun j hj => ⟨(h.rows j hj).1, (h.rows j hj).2.alloc o⟩⟩
theorem Tab.drewN {B : Nat} {F : Nat → Nat → Int} {d : Nat} {rb : Nat → Nat} {v : Value} {wr : World} (h : Tab B F d rb v wr) (q : Nat) : Tab B F d rb v (wr.drewN q) := ⟨h.own, h.rows⟩

/-- in the second loop: row d lies in block r; t of its entries are filled -/
structure Fill (w : World) (F : Nat → Nat → Int) (d : Nat) (rb : Nat → Nat) (v : Value) (r t : Nat) (wr : World) : Prop where
  below : Below w.heap.size w wr
  tab : Tab w.heap.size F d rb v wr
  base : w.heap.size ≤ r
  ne : ∀ j, j < d → rb j ≠ r
  row : wr.rowIs r 3 (d + 1) (fun i => if i < t then .int .i64 (F d i) else .int .i64 0)

theorem fill_start {w wr : World} {F : Nat → Nat → Int} {d : Nat} {rb : Nat → Nat} {v : Value} (hb : Below w.heap.size w wr) (ht : Tab w.heap.size F d rb v wr) :
    Fill w F d rb v wr.heap.size 0 (wr.alloc (.cells (madeCells #[.int .i64 0] (d + 1)) 3)) :=
  ⟨hb.alloc hb.size _, ht.alloc _, hb.size, fun j hj => by have := (ht.rows j hj).2.lt; omega, (World.rowIs_made wr (.int .i64 0) (d + 1) 3).congr (fun i _ => by simp)⟩
theorem Fill.drewN {w wr : World} {F : Nat → Nat → Int} {d : Nat} {rb : Nat → Nat} {v : Value} {r t : Nat} (h : Fill w F d rb v r t wr) (q : Nat) : Fill w F d rb v r t (wr.drewN q) :=
  ⟨below_drewN h.below q, h.tab.drewN q, h.base, h.ne, h.row⟩
theorem fill_step {w wr : World} {F : Nat → Nat → Int} {d : Nat} {rb : Nat → Nat} {v : Value} {r t : Nat} (h : Fill w F d rb v r t wr) (u : Int) (hu : u = F d t) : Fill w F d rb v r (t + 1) (wr.setCell ⟨r, t, none⟩ (.int .i64 u)) := by
  refine ⟨h.below.setCell h.base _, ⟨ownsRow_setCell_other h.tab.own (own_ne h.tab.own h.row) _, fun j hj => ⟨(h.tab.rows j hj).1, (h.tab.rows j hj).2.setOther (h.ne j hj) _⟩⟩, h.base, h.ne, (h.row.set t _).congr (fun i _ => ?_)⟩
  by_cases e : i = t
  · subst e; rw [if_pos rfl, if_pos (by omega), hu]
  · rw [if_neg e]
    by_cases hlt : i < t
    · rw [if_pos hlt, if_pos (by omega)]
    · rw [if_neg hlt, if_neg (by omega)]
theorem fill_done {w wr w3 : World} {F : Nat → Nat → Int} {d : Nat} {rb : Nat → Nat} {v v' : Value} {r : Nat} {o : Obj} (h : Fill w F d rb v r (d + 1) wr)
    (hown : w3.ownsRow w.heap.size 39 1 v' (d + 1) (rowsOf rb d ++ [.slice (some ⟨r, 0, none⟩) (d + 1) (d + 1)])) (hg : (wr.alloc o).grownBy w3 v.ownBlock) :
    ∃ rb', Tab w.heap.size F (d + 1) rb' v' w3 ∧ rb' d = r ∧ Below w.heap.size w w3 := by
  have keep : ∀ b n f, wr.rowIs b 3 n f → w3.rowIs b 3 n f := fun b n f hr => by
    have h1 := hr.alloc o
    exact h1.of_block (hg.block b h1.lt (fun e => own_ne h.tab.own hr e.symm))
  refine ⟨fun j => if j = d then r else rb j, ⟨?_, fun j hj => ?_⟩, by simp, Below.grown (h.below.alloc h.below.size o) hg (by have := h.below.size; simp; omega) (fun k hk => (h.tab.own.lt _ hk).1)⟩
  · show w3.ownsRow _ _ _ _ _ (rowsOf _ d ++ _)
    rw [rowsOf_congr (fun j => if j = d then r else rb j) rb d (fun j hj => if_neg (by omega))]
    simpa using hown
  · by_cases e : j = d
    · subst e
      simp only [if_true]
      exact ⟨h.base, keep _ _ _ (h.row.congr (fun i hi => by rw [if_pos hi]))⟩
    · simp only [if_neg e]
      exact ⟨(h.tab.rows j (by omega)).1, keep _ _ _ (h.tab.rows j (by omega)).2⟩

/-- what 'get' is told of row d - 1 -/
theorem Tab.get {B : Nat} {F : Nat → Nat → Int} {d : Nat} {rb : Nat → Nat} {v : Value} {wr : World} (h : Tab B F (d + 1) rb v wr) : ∃ gf cf, v = .slice (some ⟨gf, 0, none⟩) (d + 1) cf ∧
    ∀ j, j ≤ d → wr.cell? ⟨gf, j, none⟩ = some (.slice (some ⟨rb j, 0, none⟩) (j + 1) (j + 1)) ∧ ∀ i, i ≤ j → wr.cell? ⟨rb j, i, none⟩ = some (.int .i64 (F j i)) := by
  have ho := h.own
  rcases h.own.2 with ⟨_, hn⟩ | ⟨g, cap, cur, rfl, _⟩
  · omega
  · exact ⟨g, cap, rfl, fun j hj => ⟨(ho.cellAt j (by omega)).trans (rowsOf_at rb (d + 1) j (by omega)), fun i hi => (h.rows j (by omega)).2.cell (by omega)⟩⟩

end Go.Proofs.Ybulkajfi
