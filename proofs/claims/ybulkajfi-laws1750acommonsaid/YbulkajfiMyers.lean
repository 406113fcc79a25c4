/-
  THE PLAIN LAW OF 'LawS1750ACommon': the greedy table of furthest reaches finds the least number of edits; no Go in sight.
-/
namespace Go.Proofs.Ybulkajfi.Myers
section
set_option linter.unusedSectionVars false
set_option linter.unusedVariables false
variable {α : Type} [DecidableEq α]

/-! ### The table of longest common subsequences of prefixes, row by row -/
def lcsRow (A B : Nat → α) (prev : Nat → Nat) (i : Nat) : Nat → Nat
  | 0 => 0
  | j + 1 => if A i = B j then prev j + 1 else max (prev (j + 1)) (lcsRow A B prev i j)
def lcsTab (A B : Nat → α) : Nat → Nat → Nat
  | 0 => fun _ => 0
  | i + 1 => lcsRow A B (lcsTab A B i) i

theorem tab_zero (A B : Nat → α) (j : Nat) : lcsTab A B 0 j = 0 := rfl
theorem tab_left (A B : Nat → α) (i : Nat) : lcsTab A B i 0 = 0 := by cases i <;> rfl
theorem tab_step (A B : Nat → α) (i j : Nat) : lcsTab A B (i + 1) (j + 1) = if A i = B j then lcsTab A B i j + 1 else max (lcsTab A B i (j + 1)) (lcsTab A B (i + 1) j) := rfl

theorem tab_down (A B : Nat → α) (i : Nat) (mj : ∀ j, lcsTab A B i j ≤ lcsTab A B i (j + 1)) (lj : ∀ j, lcsTab A B i (j + 1) ≤ lcsTab A B i j + 1) :
    ∀ j, lcsTab A B i j ≤ lcsTab A B (i + 1) j ∧ lcsTab A B (i + 1) j ≤ lcsTab A B i j + 1 := by
  intro j
  induction j with
  | zero => simp [tab_left]
  | succ j ih =>
    rw [tab_step]
    have h1 := mj j
    have h2 := lj j
    split <;> omega

theorem tab_right (A B : Nat → α) : ∀ i j, lcsTab A B i j ≤ lcsTab A B i (j + 1) ∧ lcsTab A B i (j + 1) ≤ lcsTab A B i j + 1 := by
  intro i
  induction i with
  | zero => intro j; simp [tab_zero]
  | succ i ih =>
    intro j
    have hd := tab_down A B i (fun j => (ih j).1) (fun j => (ih j).2)
    have h1 := hd j
    have h2 := hd (j + 1)
    have h3 := ih j
    rw [tab_step]
    split <;> omega

theorem tab_lower (A B : Nat → α) (i j : Nat) : lcsTab A B i j ≤ lcsTab A B (i + 1) j ∧ lcsTab A B (i + 1) j ≤ lcsTab A B i j + 1 :=
  tab_down A B i (fun j => (tab_right A B i j).1) (fun j => (tab_right A B i j).2) j

theorem tab_diag (A B : Nat → α) (i j : Nat) : lcsTab A B (i + 1) (j + 1) ≤ lcsTab A B i j + 1 := by
  have h1 := tab_right A B i j
  have h2 := tab_lower A B i j
  rw [tab_step]
  split <;> omega

theorem tab_le (A B : Nat → α) : ∀ i j, lcsTab A B i j ≤ i ∧ lcsTab A B i j ≤ j := by
  intro i
  induction i with
  | zero => intro j; simp [tab_zero]
  | succ i ih =>
    intro j
    refine ⟨?_, ?_⟩
    · have h1 := tab_lower A B i j
      have h2 := ih j
      omega
    · induction j with
      | zero => simp [tab_left]
      | succ j jh =>
        have h1 := tab_right A B (i + 1) j
        omega

/-! ### The same of suffixes -/
def suf (A B : Nat → α) (n m x y : Nat) : Nat := lcsTab (fun i => A (n - 1 - i)) (fun j => B (m - 1 - j)) (n - x) (m - y)

theorem suf_eq (A B : Nat → α) (n m x y : Nat) (hx : x < n) (hy : y < m) :
    suf A B n m x y = if A x = B y then suf A B n m (x + 1) (y + 1) + 1 else max (suf A B n m (x + 1) y) (suf A B n m x (y + 1)) := by
  unfold suf
  have e1 : n - x = (n - (x + 1)) + 1 := by omega
  have e2 : m - y = (m - (y + 1)) + 1 := by omega
  rw [e1, e2, tab_step]
  have e3 : n - 1 - (n - (x + 1)) = x := by omega
  have e4 : m - 1 - (m - (y + 1)) = y := by omega
  simp only [e3, e4]

theorem suf_x (A B : Nat → α) (n m x y : Nat) (hx : x < n) : suf A B n m (x + 1) y ≤ suf A B n m x y ∧ suf A B n m x y ≤ suf A B n m (x + 1) y + 1 := by
  unfold suf
  have e1 : n - x = (n - (x + 1)) + 1 := by omega
  rw [e1]
  exact tab_lower _ _ _ _

theorem suf_y (A B : Nat → α) (n m x y : Nat) (hy : y < m) : suf A B n m x (y + 1) ≤ suf A B n m x y ∧ suf A B n m x y ≤ suf A B n m x (y + 1) + 1 := by
  unfold suf
  have e1 : m - y = (m - (y + 1)) + 1 := by omega
  rw [e1]
  exact tab_right _ _ _ _

theorem suf_diag (A B : Nat → α) (n m x y : Nat) (hx : x < n) (hy : y < m) : suf A B n m x y ≤ suf A B n m (x + 1) (y + 1) + 1 := by
  unfold suf
  have e1 : n - x = (n - (x + 1)) + 1 := by omega
  have e2 : m - y = (m - (y + 1)) + 1 := by omega
  rw [e1, e2]
  exact tab_diag _ _ _ _

theorem suf_le (A B : Nat → α) (n m x y : Nat) : suf A B n m x y ≤ n - x ∧ suf A B n m x y ≤ m - y := tab_le _ _ _ _

theorem suf_mono0 (A B : Nat → α) (n m : Nat) : ∀ x, x ≤ n → ∀ y, y ≤ m → suf A B n m x y ≤ suf A B n m 0 0 := by
  intro x
  induction x with
  | zero =>
    intro _ y
    induction y with
    | zero => intro _; exact Nat.le_refl _
    | succ y ih => intro hy; exact Nat.le_trans (suf_y A B n m 0 y (by omega)).1 (ih (by omega))
  | succ x ih => intro hx y hy; exact Nat.le_trans (suf_x A B n m x y (by omega)).1 (ih (by omega) y hy)

theorem cross1 (A B : Nat → α) (n m : Nat) : ∀ s i j, i + j = s → i ≤ n → j ≤ m → lcsTab A B i j + suf A B n m i j ≤ suf A B n m 0 0 := by
  intro s
  induction s using Nat.strongRecOn with
  | _ s ih =>
    intro i j hs hi hj
    match i, j with
    | 0, j => rw [tab_zero]; have := suf_mono0 A B n m 0 (by omega) j hj; omega
    | i + 1, 0 => rw [tab_left]; have := suf_mono0 A B n m (i + 1) hi 0 (by omega); omega
    | i + 1, j + 1 =>
      rw [tab_step]
      have h1 := suf_x A B n m i (j + 1) (by omega)
      have h2 := suf_y A B n m (i + 1) j (by omega)
      have e := suf_eq A B n m i j (by omega) (by omega)
      have i1 := ih (i + j) (by omega) i j rfl (by omega) (by omega)
      have i2 := ih (i + (j + 1)) (by omega) i (j + 1) rfl (by omega) (by omega)
      have i3 := ih (i + 1 + j) (by omega) (i + 1) j rfl (by omega) (by omega)
      split
      · rename_i h; rw [if_pos h] at e; omega
      · omega

theorem tab_mono (A B : Nat → α) (n m : Nat) : ∀ s i j, (n - i) + (m - j) = s → i ≤ n → j ≤ m → lcsTab A B i j ≤ lcsTab A B n m := by
  intro s
  induction s with
  | zero => intro i j hs hi hj; obtain rfl : i = n := by omega
            obtain rfl : j = m := by omega
            exact Nat.le_refl _
  | succ s ih =>
    intro i j hs hi hj
    by_cases h : i < n
    · exact Nat.le_trans (tab_lower A B i j).1 (ih (i + 1) j (by omega) (by omega) hj)
    · exact Nat.le_trans (tab_right A B i j).1 (ih i (j + 1) (by omega) hi (by omega))

theorem cross2 (A B : Nat → α) (n m : Nat) : ∀ s i j, (n - i) + (m - j) = s → i ≤ n → j ≤ m → lcsTab A B i j + suf A B n m i j ≤ lcsTab A B n m := by
  intro s
  induction s using Nat.strongRecOn with
  | _ s ih =>
    intro i j hs hi hj
    by_cases h : i < n ∧ j < m
    · obtain ⟨h1, h2⟩ := h
      have e := suf_eq A B n m i j h1 h2
      have d := tab_step A B i j
      have u1 := tab_lower A B i j
      have u2 := tab_right A B i j
      have i1 := ih (n - (i + 1) + (m - (j + 1))) (by omega) (i + 1) (j + 1) rfl (by omega) (by omega)
      have i2 := ih (n - i + (m - (j + 1))) (by omega) i (j + 1) rfl (by omega) (by omega)
      have i3 := ih (n - (i + 1) + (m - j)) (by omega) (i + 1) j rfl (by omega) (by omega)
      by_cases q : A i = B j
      · rw [if_pos q] at e d; omega
      · rw [if_neg q] at e; omega
    · have l := suf_le A B n m i j
      have := tab_mono A B n m s i j hs hi hj
      omega

theorem suf_all (A B : Nat → α) (n m : Nat) : suf A B n m 0 0 = lcsTab A B n m := by
  have h1 := cross1 A B n m (n + m) n m rfl (Nat.le_refl _) (Nat.le_refl _)
  have h2 := cross2 A B n m (n - 0 + (m - 0)) 0 0 rfl (by omega) (by omega)
  rw [tab_zero] at h2
  omega

/-! ### What is still to do from a point of the graph -/
def rest (A B : Nat → α) (n m : Nat) (x y : Int) : Int := ((n : Int) - x) + ((m : Int) - y) - 2 * (suf A B n m x.toNat y.toNat : Int)
def dist (A B : Nat → α) (n m : Nat) : Nat := n + m - 2 * lcsTab A B n m

theorem dist_rest (A B : Nat → α) (n m : Nat) : (dist A B n m : Int) = rest A B n m 0 0 := by
  unfold dist rest
  have h1 := suf_all A B n m
  have h2 := suf_le A B n m 0 0
  simp only [Int.toNat_zero]
  omega

theorem toNat_succ' (x : Int) (h : 0 ≤ x) : (x + 1).toNat = x.toNat + 1 := by omega

theorem rest_right (A B : Nat → α) (n m : Nat) (x y : Int) (hx : 0 ≤ x) (hxn : x < n) : rest A B n m x y ≤ rest A B n m (x + 1) y + 1 := by
  unfold rest
  rw [toNat_succ' x hx]
  have := suf_x A B n m x.toNat y.toNat (by omega)
  omega
theorem rest_down (A B : Nat → α) (n m : Nat) (x y : Int) (hy : 0 ≤ y) (hym : y < m) : rest A B n m x y ≤ rest A B n m x (y + 1) + 1 := by
  unfold rest
  rw [toNat_succ' y hy]
  have := suf_y A B n m x.toNat y.toNat (by omega)
  omega
theorem rest_diag (A B : Nat → α) (n m : Nat) (x y : Int) (hx : 0 ≤ x) (hxn : x < n) (hy : 0 ≤ y) (hym : y < m) : rest A B n m (x + 1) (y + 1) ≤ rest A B n m x y := by
  unfold rest
  rw [toNat_succ' x hx, toNat_succ' y hy]
  have := suf_diag A B n m x.toNat y.toNat (by omega) (by omega)
  omega
theorem rest_eq (A B : Nat → α) (n m : Nat) (x y : Int) (hx : 0 ≤ x) (hxn : x < n) (hy : 0 ≤ y) (hym : y < m) (h : A x.toNat = B y.toNat) : rest A B n m (x + 1) (y + 1) = rest A B n m x y := by
  unfold rest
  rw [toNat_succ' x hx, toNat_succ' y hy]
  have := suf_eq A B n m x.toNat y.toNat (by omega) (by omega)
  rw [if_pos h] at this
  omega
theorem rest_stuck (A B : Nat → α) (n m : Nat) (x y : Int) (hx : 0 ≤ x) (hxn : x < n) (hy : 0 ≤ y) (hym : y < m) (h : ¬ A x.toNat = B y.toNat) :
    rest A B n m x y = rest A B n m (x + 1) y + 1 ∨ rest A B n m x y = rest A B n m x (y + 1) + 1 := by
  unfold rest
  rw [toNat_succ' x hx, toNat_succ' y hy]
  have := suf_eq A B n m x.toNat y.toNat (by omega) (by omega)
  rw [if_neg h] at this
  omega
theorem rest_edge_x (A B : Nat → α) (n m : Nat) (y : Int) (hy : 0 ≤ y) : rest A B n m n y = m - y := by
  unfold rest
  have := suf_le A B n m (n : Int).toNat y.toNat
  omega
theorem rest_edge_y (A B : Nat → α) (n m : Nat) (x : Int) (hx : 0 ≤ x) : rest A B n m x m = n - x := by
  unfold rest
  have := suf_le A B n m x.toNat (m : Int).toNat
  omega
theorem rest_nonneg (A B : Nat → α) (n m : Nat) (x y : Int) (hx : 0 ≤ x) (hxn : x ≤ n) (hy : 0 ≤ y) (hym : y ≤ m) : 0 ≤ rest A B n m x y := by
  unfold rest
  have := suf_le A B n m x.toNat y.toNat
  omega
/-- along a diagonal, as far as it goes -/
theorem rest_along (A B : Nat → α) (n m : Nat) (k : Int) : ∀ (s : Nat) (x : Int), 0 ≤ x → 0 ≤ x - k → x + s ≤ n → x + s - k ≤ m → rest A B n m (x + s) (x + s - k) ≤ rest A B n m x (x - k) := by
  intro s
  induction s with
  | zero => intro x _ _ _ _; simp
  | succ s ih =>
    intro x hx hy hn hm
    have h1 := ih x hx hy (by omega) (by omega)
    have h2 := rest_diag A B n m (x + s) (x + s - k) (by omega) (by omega) (by omega) (by omega)
    have e1 : x + ((s + 1 : Nat) : Int) = x + s + 1 := by omega
    have e2 : x + ((s + 1 : Nat) : Int) - k = x + s - k + 1 := by omega
    rw [e2, e1]
    exact Int.le_trans h2 h1

/-! ### The run of equal items -/
def goes (A B : Nat → α) (n m : Nat) (x k : Int) : Bool := decide (x < n) && decide (x - k < m) && decide (A x.toNat = B (x - k).toNat)
def snake (A B : Nat → α) (n m : Nat) : Nat → Int → Int → Int
  | 0, x, _ => x
  | f + 1, x, k => if goes A B n m x k = true then snake A B n m f (x + 1) k else x

theorem goes_iff (A B : Nat → α) (n m : Nat) (x k : Int) : goes A B n m x k = true ↔ x < n ∧ x - k < m ∧ A x.toNat = B (x - k).toNat := by
  simp [goes, and_assoc]

theorem snake_stop (A B : Nat → α) (n m f : Nat) (x k : Int) (h : goes A B n m x k = false) : snake A B n m f x k = x := by
  cases f with
  | zero => rfl
  | succ f => simp [snake, h]
theorem snake_go (A B : Nat → α) (n m f : Nat) (x k : Int) (h : goes A B n m x k = true) : snake A B n m (f + 1) x k = snake A B n m f (x + 1) k := by
  simp [snake, h]

/-- what the run gives: it goes on, inside the graph, over equal items, as far as it can; nothing more is to do than before -/
theorem snake_ok (A B : Nat → α) (n m : Nat) (k : Int) : ∀ (f : Nat) (x : Int), 0 ≤ x → x ≤ n → 0 ≤ x - k → x - k ≤ m → (n : Int) - x ≤ f →
    x ≤ snake A B n m f x k ∧ snake A B n m f x k ≤ n ∧ snake A B n m f x k - k ≤ m ∧ goes A B n m (snake A B n m f x k) k = false ∧
    rest A B n m (snake A B n m f x k) (snake A B n m f x k - k) = rest A B n m x (x - k) ∧
    ∀ t : Int, x ≤ t → t < snake A B n m f x k → A t.toNat = B (t - k).toNat := by
  intro f
  induction f with
  | zero =>
    intro x h0 hn hy hm hf
    have e : goes A B n m x k = false := by
      cases h : goes A B n m x k with
      | false => rfl
      | true => rw [goes_iff] at h; omega
    rw [show snake A B n m 0 x k = x from rfl]
    exact ⟨by omega, hn, hm, e, rfl, fun t a b => by omega⟩
  | succ f ih =>
    intro x h0 hn hy hm hf
    cases h : goes A B n m x k with
    | false =>
      rw [snake_stop A B n m (f + 1) x k h]
      exact ⟨by omega, hn, hm, h, rfl, fun t a b => by omega⟩
    | true =>
      rw [snake_go A B n m f x k h]
      rw [goes_iff] at h
      obtain ⟨g1, g2, g3⟩ := h
      obtain ⟨a1, a2, a3, a4, a5, a6⟩ := ih (x + 1) (by omega) (by omega) (by omega) (by omega) (by omega)
      refine ⟨by omega, a2, a3, a4, ?_, ?_⟩
      · rw [a5]
        have := rest_eq A B n m x (x - k) h0 g1 (by omega) g2 g3
        rw [← this]
        congr 1
        omega
      · intro t ht hs
        by_cases q : t = x
        · rw [q]; exact g3
        · exact a6 t (by omega) hs

/-! ### The table -/
def look (f : Nat → Int) (d k : Int) : Int := if k < -d ∨ d < k then -1 else f ((k + d) / 2).toNat
def down (m p k : Int) : Int := if 0 ≤ p ∧ p - (k + 1) < m then p else -1
def pick (n m p q k : Int) : Int := if 0 ≤ q ∧ q < n ∧ down m p k < q + 1 then q + 1 else down m p k
def from' (n m p q k : Int) : Int := if 0 ≤ q ∧ q < n ∧ down m p k < q + 1 then k - 1 else if 0 ≤ p ∧ p - (k + 1) < m then k + 1 else 0
def fill (A B : Nat → α) (n m : Nat) (x k : Int) : Int := if 0 ≤ x then snake A B n m n x k else x
def reach (A B : Nat → α) (n m : Nat) : Nat → Nat → Int
  | 0 => fun _ => fill A B n m 0 0
  | d + 1 => fun i => fill A B n m (pick n m (look (reach A B n m d) d (2 * (i : Int) - (d + 1) + 1)) (look (reach A B n m d) d (2 * (i : Int) - (d + 1) - 1)) (2 * (i : Int) - (d + 1))) (2 * (i : Int) - (d + 1))

/-- an entry of the table that is no -1 -/
def Good (A B : Nat → α) (n m : Nat) (d : Nat) (k x : Int) : Prop :=
  0 ≤ x ∧ x ≤ n ∧ 0 ≤ x - k ∧ x - k ≤ m ∧ goes A B n m x k = false ∧ rest A B n m 0 0 ≤ rest A B n m x (x - k) + d

theorem look_in (f : Nat → Int) (d i : Nat) (h : i ≤ d) : look f d (2 * (i : Int) - d) = f i := by
  unfold look
  rw [if_neg (by omega)]
  congr 1
  omega
theorem look_out (f : Nat → Int) (d k : Int) (h : k < -d ∨ d < k) : look f d k = -1 := by unfold look; rw [if_pos h]

theorem look_p (f : Nat → Int) (d i : Nat) : look f d (2 * (i : Int) - (d + 1) + 1) = if i ≤ d then f i else -1 := by
  have e : 2 * (i : Int) - (d + 1) + 1 = 2 * (i : Int) - d := by omega
  rw [e]
  split
  · exact look_in f d i (by assumption)
  · exact look_out f d _ (by omega)
theorem look_q (f : Nat → Int) (d i : Nat) (hi : i ≤ d + 1) : look f d (2 * (i : Int) - (d + 1) - 1) = if 1 ≤ i then f (i - 1) else -1 := by
  split
  · have e : 2 * (i : Int) - (d + 1) - 1 = 2 * ((i - 1 : Nat) : Int) - d := by omega
    rw [e]
    exact look_in f d (i - 1) (by omega)
  · exact look_out f d _ (by omega)

/-- a point before its run, made of two entries (either may be -1) one edit ahead -/
theorem pick_ok (A B : Nat → α) (n m d : Nat) (k p q : Int) (hp : p = -1 ∨ Good A B n m d (k + 1) p) (hq : q = -1 ∨ Good A B n m d (k - 1) q) :
    pick n m p q k = -1 ∨ (0 ≤ pick n m p q k ∧ pick n m p q k ≤ n ∧ 0 ≤ pick n m p q k - k ∧ pick n m p q k - k ≤ m ∧ rest A B n m 0 0 ≤ rest A B n m (pick n m p q k) (pick n m p q k - k) + (d + 1)) := by
  unfold pick
  split
  · rename_i h
    right
    rcases hq with hq | ⟨g1, g2, g3, g4, g5, g6⟩
    · omega
    · have r := rest_right A B n m q (q - (k - 1)) g1 h.2.1
      have e : q + 1 - k = q - (k - 1) := by omega
      rw [e]
      exact ⟨by omega, by omega, by omega, by omega, by omega⟩
  · unfold down
    split
    · rename_i h
      right
      rcases hp with hp | ⟨g1, g2, g3, g4, g5, g6⟩
      · omega
      · have r := rest_down A B n m p (p - (k + 1)) g3 h.2
        have e : p - k = p - (k + 1) + 1 := by omega
        rw [e]
        exact ⟨by omega, by omega, by omega, by omega, by omega⟩
    · left; rfl

theorem fill_ok (A B : Nat → α) (n m d : Nat) (k x : Int) (h : x = -1 ∨ (0 ≤ x ∧ x ≤ n ∧ 0 ≤ x - k ∧ x - k ≤ m ∧ rest A B n m 0 0 ≤ rest A B n m x (x - k) + d)) :
    (x = -1 ∧ fill A B n m x k = -1) ∨ (0 ≤ x ∧ x ≤ fill A B n m x k ∧ Good A B n m d k (fill A B n m x k) ∧ ∀ t : Int, x ≤ t → t < fill A B n m x k → A t.toNat = B (t - k).toNat) := by
  unfold fill
  rcases h with rfl | ⟨h1, h2, h3, h4, h5⟩
  · left; simp
  · right
    rw [if_pos h1]
    obtain ⟨a1, a2, a3, a4, a5, a6⟩ := snake_ok A B n m k n x h1 h2 h3 h4 (by omega)
    exact ⟨h1, a1, ⟨by omega, a2, by omega, a3, a4, by rw [a5]; exact h5⟩, a6⟩

theorem entry_ok (A B : Nat → α) (n m : Nat) : ∀ d i, i ≤ d → reach A B n m d i = -1 ∨ Good A B n m d (2 * (i : Int) - d) (reach A B n m d i) := by
  intro d
  induction d with
  | zero =>
    intro i hi
    obtain rfl : i = 0 := by omega
    have h := fill_ok A B n m 0 0 0 (.inr ⟨by omega, by omega, by omega, by omega, by simp⟩)
    rcases h with ⟨h, _⟩ | ⟨_, _, h, _⟩
    · omega
    · right; exact h
  | succ d ih =>
    intro i hi
    show fill A B n m _ _ = -1 ∨ Good A B n m (d + 1) _ (fill A B n m _ _)
    have hp : look (reach A B n m d) d (2 * (i : Int) - (d + 1) + 1) = -1 ∨ Good A B n m d (2 * (i : Int) - (d + 1) + 1) (look (reach A B n m d) d (2 * (i : Int) - (d + 1) + 1)) := by
      rw [look_p]
      split
      · have := ih i (by assumption)
        have e : 2 * (i : Int) - (d + 1) + 1 = 2 * (i : Int) - d := by omega
        rw [e]; exact this
      · left; rfl
    have hq : look (reach A B n m d) d (2 * (i : Int) - (d + 1) - 1) = -1 ∨ Good A B n m d (2 * (i : Int) - (d + 1) - 1) (look (reach A B n m d) d (2 * (i : Int) - (d + 1) - 1)) := by
      rw [look_q _ _ _ hi]
      split
      · have := ih (i - 1) (by omega)
        have e : 2 * (i : Int) - (d + 1) - 1 = 2 * ((i - 1 : Nat) : Int) - d := by omega
        rw [e]; exact this
      · left; rfl
    have h := pick_ok A B n m d _ _ _ hp hq
    have h2 := fill_ok A B n m (d + 1) (2 * (i : Int) - (d + 1)) _ (by
      rcases h with h | h
      · left; exact h
      · right; exact ⟨h.1, h.2.1, h.2.2.1, h.2.2.2.1, by have := h.2.2.2.2; omega⟩)
    have e : (2 * (i : Int) - ((d + 1 : Nat) : Int)) = 2 * (i : Int) - (d + 1) := by omega
    rw [e]
    rcases h2 with ⟨_, h2⟩ | ⟨_, _, h2, _⟩
    · left; exact h2
    · right; exact h2

/-- at each number of edits up to the least one, some entry lies on a best way -/
theorem entry_best (A B : Nat → α) (n m : Nat) : ∀ d, d ≤ dist A B n m → ∃ i, i ≤ d ∧ 0 ≤ reach A B n m d i ∧ rest A B n m (reach A B n m d i) (reach A B n m d i - (2 * (i : Int) - d)) + d ≤ rest A B n m 0 0 := by
  intro d
  induction d with
  | zero =>
    intro _
    refine ⟨0, Nat.le_refl _, ?_⟩
    have h := snake_ok A B n m 0 n 0 (by omega) (by omega) (by omega) (by omega) (by omega)
    show 0 ≤ fill A B n m 0 0 ∧ rest A B n m (fill A B n m 0 0) (fill A B n m 0 0 - (2 * ((0 : Nat) : Int) - ((0 : Nat) : Int))) + ((0 : Nat) : Int) ≤ _
    unfold fill
    rw [if_pos (by omega)]
    obtain ⟨a1, a2, a3, a4, a5, a6⟩ := h
    refine ⟨a1, ?_⟩
    have e : (2 * ((0 : Nat) : Int) - ((0 : Nat) : Int)) = 0 := rfl
    rw [e, a5]
    simp
  | succ d ih =>
    intro hd
    obtain ⟨i, hi, h0, hr⟩ := ih (by omega)
    have hg : Good A B n m d (2 * (i : Int) - d) (reach A B n m d i) := by
      rcases entry_ok A B n m d i hi with h | h
      · omega
      · exact h
    obtain ⟨g1, g2, g3, g4, g5, g6⟩ := hg
    have hD := dist_rest A B n m
    -- what is still to do is more than nothing
    have hpos : 0 < rest A B n m (reach A B n m d i) (reach A B n m d i - (2 * (i : Int) - d)) := by omega
    -- one of the two steps is on a best way
    have hstep : (reach A B n m d i < n ∧ rest A B n m (reach A B n m d i) (reach A B n m d i - (2 * (i : Int) - d)) = rest A B n m (reach A B n m d i + 1) (reach A B n m d i - (2 * (i : Int) - d)) + 1) ∨
        (reach A B n m d i - (2 * (i : Int) - d) < m ∧ rest A B n m (reach A B n m d i) (reach A B n m d i - (2 * (i : Int) - d)) = rest A B n m (reach A B n m d i) (reach A B n m d i - (2 * (i : Int) - d) + 1) + 1) := by
      generalize reach A B n m d i = x at *
      generalize hy : x - (2 * (i : Int) - d) = y at *
      by_cases hxn : x < n
      · by_cases hym : y < m
        · have hne : ¬ A x.toNat = B y.toNat := by
            intro h
            have : goes A B n m x (2 * (i : Int) - d) = true := by rw [goes_iff, hy]; exact ⟨hxn, hym, h⟩
            rw [this] at g5
            cases g5
          rcases rest_stuck A B n m x y g1 hxn g3 hym hne with h | h
          · exact .inl ⟨hxn, h⟩
          · exact .inr ⟨hym, h⟩
        · left
          have ey : y = m := by omega
          refine ⟨hxn, ?_⟩
          rw [ey, rest_edge_y A B n m x g1, rest_edge_y A B n m (x + 1) (by omega)]
          omega
      · right
        have ex : x = n := by omega
        have hym : y < m := by
          by_cases hym : y < m
          · exact hym
          · rw [ex, rest_edge_x A B n m y g3] at hpos; omega
        refine ⟨hym, ?_⟩
        rw [ex, rest_edge_x A B n m y g3, rest_edge_x A B n m (y + 1) (by omega)]
        omega
    rcases hstep with ⟨hx, hs⟩ | ⟨hy, hs⟩
    · -- to the right: diagonal k + 1, entry i + 1
      refine ⟨i + 1, by omega, ?_⟩
      have hq := look_q (reach A B n m d) d (i + 1) (by omega)
      rw [if_pos (by omega), Nat.add_sub_cancel] at hq
      have hp0 : look (reach A B n m d) d (2 * ((i + 1 : Nat) : Int) - (d + 1) + 1) = -1 ∨ Good A B n m d (2 * ((i + 1 : Nat) : Int) - (d + 1) + 1) (look (reach A B n m d) d (2 * ((i + 1 : Nat) : Int) - (d + 1) + 1)) := by
        rw [look_p]
        split
        · have := entry_ok A B n m d (i + 1) (by assumption)
          have e : 2 * ((i + 1 : Nat) : Int) - (d + 1) + 1 = 2 * ((i + 1 : Nat) : Int) - d := by omega
          rw [e]; exact this
        · left; rfl
      show 0 ≤ fill A B n m (pick n m (look (reach A B n m d) d (2 * ((i + 1 : Nat) : Int) - (d + 1) + 1)) (look (reach A B n m d) d (2 * ((i + 1 : Nat) : Int) - (d + 1) - 1)) (2 * ((i + 1 : Nat) : Int) - (d + 1))) (2 * ((i + 1 : Nat) : Int) - (d + 1)) ∧ rest A B n m (fill A B n m (pick n m (look (reach A B n m d) d (2 * ((i + 1 : Nat) : Int) - (d + 1) + 1)) (look (reach A B n m d) d (2 * ((i + 1 : Nat) : Int) - (d + 1) - 1)) (2 * ((i + 1 : Nat) : Int) - (d + 1))) (2 * ((i + 1 : Nat) : Int) - (d + 1))) (fill A B n m (pick n m (look (reach A B n m d) d (2 * ((i + 1 : Nat) : Int) - (d + 1) + 1)) (look (reach A B n m d) d (2 * ((i + 1 : Nat) : Int) - (d + 1) - 1)) (2 * ((i + 1 : Nat) : Int) - (d + 1))) (2 * ((i + 1 : Nat) : Int) - (d + 1)) - (2 * ((i + 1 : Nat) : Int) - ((d + 1 : Nat) : Int))) + ((d + 1 : Nat) : Int) ≤ _
      rw [hq]
      generalize look (reach A B n m d) d (2 * ((i + 1 : Nat) : Int) - (d + 1) + 1) = p at *
      generalize reach A B n m d i = x at *
      have ek : (2 * ((i + 1 : Nat) : Int) - ((d + 1 : Nat) : Int)) = 2 * ((i + 1 : Nat) : Int) - (d + 1) := by omega
      rw [ek]
      generalize hk : 2 * ((i + 1 : Nat) : Int) - (d + 1) = k at *
      have hz : x + 1 ≤ pick n m p x k ∧ pick n m p x k ≤ n ∧ pick n m p x k - k ≤ m := by
        unfold pick
        split
        · exact ⟨by omega, by omega, by omega⟩
        · rename_i h
          have : x + 1 ≤ down m p k := by omega
          refine ⟨this, ?_⟩
          unfold down at *
          split at this
          · rename_i h2
            rw [if_pos h2]
            rcases hp0 with hp0 | ⟨q1, q2, q3, q4, _, _⟩
            · omega
            · exact ⟨q2, by omega⟩
          · omega
      generalize pick n m p x k = z at *
      obtain ⟨z1, z2, z3⟩ := hz
      have ha := rest_along A B n m k (z - (x + 1)).toNat (x + 1) (by omega) (by omega) (by omega) (by omega)
      have ez : x + 1 + ((z - (x + 1)).toNat : Int) = z := by omega
      rw [ez] at ha
      unfold fill
      rw [if_pos (by omega)]
      obtain ⟨a1, a2, a3, a4, a5, a6⟩ := snake_ok A B n m k n z (by omega) z2 (by omega) z3 (by omega)
      refine ⟨by omega, ?_⟩
      rw [a5]
      have ey : x + 1 - k = x - (2 * (i : Int) - d) := by omega
      rw [ey] at ha
      omega
    · -- down: diagonal k - 1, entry i
      refine ⟨i, by omega, ?_⟩
      have hp := look_p (reach A B n m d) d i
      rw [if_pos hi] at hp
      have hq0 : look (reach A B n m d) d (2 * (i : Int) - (d + 1) - 1) = -1 ∨ Good A B n m d (2 * (i : Int) - (d + 1) - 1) (look (reach A B n m d) d (2 * (i : Int) - (d + 1) - 1)) := by
        rw [look_q _ _ _ (by omega)]
        split
        · have := entry_ok A B n m d (i - 1) (by omega)
          have e : 2 * (i : Int) - (d + 1) - 1 = 2 * ((i - 1 : Nat) : Int) - d := by omega
          rw [e]; exact this
        · left; rfl
      show 0 ≤ fill A B n m (pick n m (look (reach A B n m d) d (2 * (i : Int) - (d + 1) + 1)) (look (reach A B n m d) d (2 * (i : Int) - (d + 1) - 1)) (2 * (i : Int) - (d + 1))) (2 * (i : Int) - (d + 1)) ∧ rest A B n m (fill A B n m (pick n m (look (reach A B n m d) d (2 * (i : Int) - (d + 1) + 1)) (look (reach A B n m d) d (2 * (i : Int) - (d + 1) - 1)) (2 * (i : Int) - (d + 1))) (2 * (i : Int) - (d + 1))) (fill A B n m (pick n m (look (reach A B n m d) d (2 * (i : Int) - (d + 1) + 1)) (look (reach A B n m d) d (2 * (i : Int) - (d + 1) - 1)) (2 * (i : Int) - (d + 1))) (2 * (i : Int) - (d + 1)) - (2 * (i : Int) - ((d + 1 : Nat) : Int))) + ((d + 1 : Nat) : Int) ≤ _
      rw [hp]
      generalize look (reach A B n m d) d (2 * (i : Int) - (d + 1) - 1) = q at *
      generalize reach A B n m d i = x at *
      have ek : (2 * (i : Int) - ((d + 1 : Nat) : Int)) = 2 * (i : Int) - (d + 1) := by omega
      rw [ek]
      generalize hk : 2 * (i : Int) - (d + 1) = k at *
      have hz : x ≤ pick n m x q k ∧ pick n m x q k ≤ n ∧ pick n m x q k - k ≤ m := by
        have hdn : down m x k = x := by unfold down; rw [if_pos ⟨g1, by omega⟩]
        unfold pick
        rw [hdn]
        split
        · rename_i h
          rcases hq0 with hq0 | ⟨q1, q2, q3, q4, _, _⟩
          · omega
          · exact ⟨by omega, by omega, by omega⟩
        · exact ⟨by omega, by omega, by omega⟩
      generalize pick n m x q k = z at *
      obtain ⟨z1, z2, z3⟩ := hz
      have ha := rest_along A B n m k (z - x).toNat x (by omega) (by omega) (by omega) (by omega)
      have ez : x + ((z - x).toNat : Int) = z := by omega
      rw [ez] at ha
      unfold fill
      rw [if_pos (by omega)]
      obtain ⟨a1, a2, a3, a4, a5, a6⟩ := snake_ok A B n m k n z (by omega) z2 (by omega) z3 (by omega)
      refine ⟨by omega, ?_⟩
      rw [a5]
      have ey : x - k = x - (2 * (i : Int) - d) + 1 := by omega
      rw [ey] at ha
      omega

/-- THE TEST THAT ENDS THE TABLE: the corner is met at the least number of edits, and not before -/
theorem hit (A B : Nat → α) (n m d : Nat) (hd : d ≤ dist A B n m) : look (reach A B n m d) d ((n : Int) - m) = n ↔ d = dist A B n m := by
  have hD := dist_rest A B n m
  constructor
  · intro h
    by_cases hout : (n : Int) - m < -(d : Int) ∨ (d : Int) < (n : Int) - m
    · rw [look_out _ _ _ hout] at h; omega
    · unfold look at h
      rw [if_neg hout] at h
      have hi : (((n : Int) - m + d) / 2).toNat ≤ d := by omega
      generalize hii : (((n : Int) - m + d) / 2).toNat = i at *
      rcases entry_ok A B n m d i hi with g | ⟨g1, g2, g3, g4, g5, g6⟩
      · omega
      · rw [h] at g1 g2 g3 g4 g5 g6
        have ek : (n : Int) - (2 * (i : Int) - d) = m := by omega
        rw [ek, rest_edge_x A B n m m (by omega)] at g6
        omega
  · intro h
    obtain ⟨i, hi, h0, hr⟩ := entry_best A B n m d hd
    rcases entry_ok A B n m d i hi with g | ⟨g1, g2, g3, g4, g5, g6⟩
    · omega
    · have hz : rest A B n m (reach A B n m d i) (reach A B n m d i - (2 * (i : Int) - d)) ≤ 0 := by omega
      have hxy : reach A B n m d i = n ∧ reach A B n m d i - (2 * (i : Int) - d) = m := by
        generalize reach A B n m d i = x at *
        generalize hy : x - (2 * (i : Int) - d) = y at *
        by_cases hxn : x < n
        · by_cases hym : y < m
          · have hne : ¬ A x.toNat = B y.toNat := by
              intro h
              have : goes A B n m x (2 * (i : Int) - d) = true := by rw [goes_iff, hy]; exact ⟨hxn, hym, h⟩
              rw [this] at g5
              cases g5
            have n1 := rest_nonneg A B n m (x + 1) y (by omega) (by omega) g3 g4
            have n2 := rest_nonneg A B n m x (y + 1) g1 g2 (by omega) (by omega)
            rcases rest_stuck A B n m x y g1 hxn g3 hym hne with h | h <;> omega
          · have ey : y = m := by omega
            rw [ey, rest_edge_y A B n m x g1] at hz
            omega
        · have ex : x = n := by omega
          rw [ex, rest_edge_x A B n m y g3] at hz
          exact ⟨ex, by omega⟩
      obtain ⟨hx, hy⟩ := hxy
      have e : (n : Int) - m = 2 * (i : Int) - d := by omega
      rw [e, look_in _ _ _ hi]
      exact hx

/-! ### The walk back -/
def sumN : List (Int × Int × Int) → Int
  | [] => 0
  | r :: rs => r.2.2 + sumN rs
/-- the runs from (pa, pb) on, up to (x, y) at most: in order, not empty, of equal items -/
def Chain (A B : Nat → α) : List (Int × Int × Int) → Int → Int → Int → Int → Prop
  | [], pa, pb, x, y => pa ≤ x ∧ pb ≤ y
  | r :: rs, pa, pb, x, y => 0 < r.2.2 ∧ pa ≤ r.1 ∧ pb ≤ r.2.1 ∧ (∀ j : Nat, (j : Int) < r.2.2 → A (r.1 + j).toNat = B (r.2.1 + j).toNat) ∧ Chain A B rs (r.1 + r.2.2) (r.2.1 + r.2.2) x y

def backStep (A B : Nat → α) (n m : Nat) (d : Nat) (x y : Int) : Int × Int :=
  (pick n m (look (reach A B n m d) d (x - y + 1)) (look (reach A B n m d) d (x - y - 1)) (x - y), from' n m (look (reach A B n m d) d (x - y + 1)) (look (reach A B n m d) d (x - y - 1)) (x - y))
def runOf (start k x : Int) : List (Int × Int × Int) := if start < x then [(start, start - k, x - start)] else []
/-- what the loop of 'runs' gathers, last to first -/
def back (A B : Nat → α) (n m : Nat) : Nat → Int → Int → List (Int × Int × Int)
  | 0, x, y => runOf 0 (x - y) x
  | d + 1, x, y => runOf (backStep A B n m d x y).1 (x - y) x ++ back A B n m d (look (reach A B n m d) d (backStep A B n m d x y).2) (look (reach A B n m d) d (backStep A B n m d x y).2 - (backStep A B n m d x y).2)

theorem chain_mono (A B : Nat → α) : ∀ (rs : List (Int × Int × Int)) (pa pb x y x2 y2 : Int), Chain A B rs pa pb x y → x ≤ x2 → y ≤ y2 → Chain A B rs pa pb x2 y2 := by
  intro rs
  induction rs with
  | nil => intro pa pb x y x2 y2 h h1 h2; exact ⟨Int.le_trans h.1 h1, Int.le_trans h.2 h2⟩
  | cons r rs ih => intro pa pb x y x2 y2 h h1 h2; exact ⟨h.1, h.2.1, h.2.2.1, h.2.2.2.1, ih _ _ _ _ _ _ h.2.2.2.2 h1 h2⟩
theorem chain_snoc (A B : Nat → α) (r : Int × Int × Int) : ∀ (rs : List (Int × Int × Int)) (pa pb x y x2 y2 : Int), Chain A B rs pa pb x y → x ≤ r.1 → y ≤ r.2.1 → 0 < r.2.2 →
    (∀ j : Nat, (j : Int) < r.2.2 → A (r.1 + j).toNat = B (r.2.1 + j).toNat) → r.1 + r.2.2 ≤ x2 → r.2.1 + r.2.2 ≤ y2 → Chain A B (rs ++ [r]) pa pb x2 y2 := by
  intro rs
  induction rs with
  | nil => intro pa pb x y x2 y2 h h1 h2 h3 h4 h5 h6; exact ⟨h3, Int.le_trans h.1 h1, Int.le_trans h.2 h2, h4, h5, h6⟩
  | cons s rs ih => intro pa pb x y x2 y2 h h1 h2 h3 h4 h5 h6; exact ⟨h.1, h.2.1, h.2.2.1, h.2.2.2.1, ih _ _ _ _ _ _ h.2.2.2.2 h1 h2 h3 h4 h5 h6⟩
theorem chain_le (A B : Nat → α) : ∀ (rs : List (Int × Int × Int)) (pa pb x y : Int), Chain A B rs pa pb x y → pa ≤ x ∧ pb ≤ y := by
  intro rs
  induction rs with
  | nil => intro pa pb x y h; exact h
  | cons r rs ih => intro pa pb x y h; have := ih _ _ _ _ h.2.2.2.2; have h1 := h.1; have h2 := h.2.1; have h3 := h.2.2.1; omega
theorem sumN_append : ∀ (a b : List (Int × Int × Int)), sumN (a ++ b) = sumN a + sumN b := by
  intro a
  induction a with
  | nil => intro b; simp [sumN]
  | cons r a ih => intro b; simp only [List.cons_append, sumN, ih]; omega

/-- one run set behind a chain -/
theorem chain_run (A B : Nat → α) (rs : List (Int × Int × Int)) (x' y' start k x : Int) (h : Chain A B rs 0 0 x' y') (h1 : x' ≤ start) (h2 : y' ≤ start - k) (h3 : start ≤ x)
    (hm : ∀ t : Int, start ≤ t → t < x → A t.toNat = B (t - k).toNat) : Chain A B (rs ++ (runOf start k x).reverse) 0 0 x (x - k) ∧ sumN (rs ++ (runOf start k x).reverse) = sumN rs + (x - start) := by
  unfold runOf
  split
  · rename_i hlt
    refine ⟨?_, ?_⟩
    · refine chain_snoc A B (start, start - k, x - start) rs 0 0 x' y' x (x - k) h h1 h2 (by show 0 < x - start; omega) ?_ (by show start + (x - start) ≤ x; omega) (by show start - k + (x - start) ≤ x - k; omega)
      intro j hj
      have := hm (start + j) (by omega) (by have : (j : Int) < x - start := hj; omega)
      rw [this]
      show B _ = B (start - k + j).toNat
      congr 2
      omega
    · simp [sumN_append, sumN]
  · have e : x = start := by omega
    simp only [List.reverse_nil, List.append_nil]
    exact ⟨chain_mono A B rs 0 0 x' y' x (x - k) h (by omega) (by omega), by omega⟩

theorem pick_from (n m p q k : Int) (h : 0 ≤ pick n m p q k) :
    (from' n m p q k = k - 1 ∧ 0 ≤ q ∧ pick n m p q k = q + 1) ∨ (from' n m p q k = k + 1 ∧ 0 ≤ p ∧ pick n m p q k = p) := by
  unfold pick from' at *
  split at h
  · rename_i c
    left
    rw [if_pos c, if_pos c]
    exact ⟨rfl, c.1, rfl⟩
  · rename_i c
    rw [if_neg c, if_neg c]
    right
    unfold down at *
    split at h
    · rename_i c2
      rw [if_pos c2, if_pos c2]
      exact ⟨rfl, c2.1, rfl⟩
    · omega

theorem back_ok (A B : Nat → α) (n m : Nat) : ∀ (d i : Nat), i ≤ d → 0 ≤ reach A B n m d i →
    Chain A B (back A B n m d (reach A B n m d i) (reach A B n m d i - (2 * (i : Int) - d))).reverse 0 0 (reach A B n m d i) (reach A B n m d i - (2 * (i : Int) - d)) ∧
    2 * sumN (back A B n m d (reach A B n m d i) (reach A B n m d i - (2 * (i : Int) - d))).reverse = reach A B n m d i + (reach A B n m d i - (2 * (i : Int) - d)) - d := by
  intro d
  induction d with
  | zero =>
    intro i hi h0
    obtain rfl : i = 0 := by omega
    have h := fill_ok A B n m 0 0 0 (.inr ⟨by omega, by omega, by omega, by omega, by simp⟩)
    have hr : reach A B n m 0 0 = fill A B n m 0 0 := rfl
    rw [hr] at h0 ⊢
    rcases h with ⟨h, _⟩ | ⟨_, h1, h2, h3⟩
    · omega
    · generalize fill A B n m 0 0 = x at *
      have ek : x - (2 * ((0 : Nat) : Int) - ((0 : Nat) : Int)) = x - 0 := by omega
      rw [ek]
      have hc := chain_run A B [] 0 0 0 0 x ⟨by omega, by omega⟩ (by omega) (by omega) (by omega) h3
      simp only [back]
      have e0 : x - (x - 0) = 0 := by omega
      rw [e0]
      simp only [List.nil_append] at hc
      refine ⟨hc.1, ?_⟩
      rw [hc.2]
      simp only [sumN]
      omega
  | succ d ih =>
    intro i hi h0
    have hk : (2 * (i : Int) - ((d + 1 : Nat) : Int)) = 2 * (i : Int) - (d + 1) := by omega
    rw [hk]
    have hr : reach A B n m (d + 1) i = fill A B n m (pick n m (look (reach A B n m d) d (2 * (i : Int) - (d + 1) + 1)) (look (reach A B n m d) d (2 * (i : Int) - (d + 1) - 1)) (2 * (i : Int) - (d + 1))) (2 * (i : Int) - (d + 1)) := rfl
    have hp : look (reach A B n m d) d (2 * (i : Int) - (d + 1) + 1) = -1 ∨ Good A B n m d (2 * (i : Int) - (d + 1) + 1) (look (reach A B n m d) d (2 * (i : Int) - (d + 1) + 1)) := by
      rw [look_p]
      split
      · have := entry_ok A B n m d i (by assumption)
        have e : 2 * (i : Int) - (d + 1) + 1 = 2 * (i : Int) - d := by omega
        rw [e]; exact this
      · left; rfl
    have hq : look (reach A B n m d) d (2 * (i : Int) - (d + 1) - 1) = -1 ∨ Good A B n m d (2 * (i : Int) - (d + 1) - 1) (look (reach A B n m d) d (2 * (i : Int) - (d + 1) - 1)) := by
      rw [look_q _ _ _ hi]
      split
      · have := entry_ok A B n m d (i - 1) (by omega)
        have e : 2 * (i : Int) - (d + 1) - 1 = 2 * ((i - 1 : Nat) : Int) - d := by omega
        rw [e]; exact this
      · left; rfl
    have hpk := pick_ok A B n m d _ _ _ hp hq
    have hfl := fill_ok A B n m (d + 1) (2 * (i : Int) - (d + 1)) _ (by
      rcases hpk with h | h
      · left; exact h
      · right; exact ⟨h.1, h.2.1, h.2.2.1, h.2.2.2.1, by have := h.2.2.2.2; omega⟩)
    rw [← hr] at hfl
    rcases hfl with ⟨_, h2⟩ | ⟨h1, h2, h3, h4⟩
    · omega
    generalize hx : reach A B n m (d + 1) i = x at *
    have exy : x - (x - (2 * (i : Int) - (d + 1))) = 2 * (i : Int) - (d + 1) := by omega
    simp only [back, backStep, exy]
    -- the entry that it came from
    have hfrom : ∃ i', i' ≤ d ∧ from' n m (look (reach A B n m d) d (2 * (i : Int) - (d + 1) + 1)) (look (reach A B n m d) d (2 * (i : Int) - (d + 1) - 1)) (2 * (i : Int) - (d + 1)) = 2 * (i' : Int) - d ∧ 0 ≤ reach A B n m d i' ∧
        ((pick n m (look (reach A B n m d) d (2 * (i : Int) - (d + 1) + 1)) (look (reach A B n m d) d (2 * (i : Int) - (d + 1) - 1)) (2 * (i : Int) - (d + 1)) = reach A B n m d i' + 1 ∧ (i' : Int) = i - 1) ∨
         (pick n m (look (reach A B n m d) d (2 * (i : Int) - (d + 1) + 1)) (look (reach A B n m d) d (2 * (i : Int) - (d + 1) - 1)) (2 * (i : Int) - (d + 1)) = reach A B n m d i' ∧ (i' : Int) = i)) := by
      rcases pick_from n m _ _ _ h1 with ⟨f1, f2, f3⟩ | ⟨f1, f2, f3⟩
      · have e := look_q (reach A B n m d) d i hi
        have hi1 : 1 ≤ i := by
          by_cases c : 1 ≤ i
          · exact c
          · rw [if_neg c] at e; omega
        rw [if_pos hi1] at e
        refine ⟨i - 1, by omega, by omega, by omega, .inl ⟨by omega, by omega⟩⟩
      · have e := look_p (reach A B n m d) d i
        have hi1 : i ≤ d := by
          by_cases c : i ≤ d
          · exact c
          · rw [if_neg c] at e; omega
        rw [if_pos hi1] at e
        refine ⟨i, hi1, by omega, by omega, .inr ⟨by omega, rfl⟩⟩
    generalize hst : pick n m (look (reach A B n m d) d (2 * (i : Int) - (d + 1) + 1)) (look (reach A B n m d) d (2 * (i : Int) - (d + 1) - 1)) (2 * (i : Int) - (d + 1)) = start at *
    generalize hfr : from' n m (look (reach A B n m d) d (2 * (i : Int) - (d + 1) + 1)) (look (reach A B n m d) d (2 * (i : Int) - (d + 1) - 1)) (2 * (i : Int) - (d + 1)) = fr at *
    obtain ⟨i', hi', hf, h0', hcase⟩ := hfrom
    subst hf
    rw [look_in _ _ _ hi']
    obtain ⟨c1, c2⟩ := ih i' hi' h0'
    generalize back A B n m d (reach A B n m d i') (reach A B n m d i' - (2 * (i' : Int) - d)) = bk at *
    generalize reach A B n m d i' = x' at *
    have hc := chain_run A B bk.reverse x' (x' - (2 * (i' : Int) - d)) start (2 * (i : Int) - (d + 1)) x c1 (by omega) (by omega) h2 h4
    simp only [List.reverse_append]
    refine ⟨hc.1, ?_⟩
    rw [hc.2]
    omega

/-- THE LAW: from the corner, at the least number of edits -/
theorem runs_ok (A B : Nat → α) (n m : Nat) :
    Chain A B (back A B n m (dist A B n m) n m).reverse 0 0 n m ∧ sumN (back A B n m (dist A B n m) n m).reverse = lcsTab A B n m ∧ (dist A B n m : Int) = n + m - 2 * lcsTab A B n m := by
  have hh := (hit A B n m (dist A B n m) (Nat.le_refl _)).2 rfl
  have hD : (dist A B n m : Int) = n + m - 2 * lcsTab A B n m := by
    unfold dist
    have := tab_le A B n m
    omega
  have hin : ¬ ((n : Int) - m < -(dist A B n m : Int) ∨ (dist A B n m : Int) < (n : Int) - m) := by
    intro h
    rw [look_out _ _ _ h] at hh
    omega
  unfold look at hh
  rw [if_neg hin] at hh
  have hi : (((n : Int) - m + dist A B n m) / 2).toNat ≤ dist A B n m := by omega
  have hk : 2 * ((((n : Int) - m + dist A B n m) / 2).toNat : Int) - dist A B n m = (n : Int) - m := by omega
  have hb := back_ok A B n m (dist A B n m) _ hi (by omega)
  rw [hh, hk] at hb
  have e : (n : Int) - ((n : Int) - m) = m := by omega
  rw [e] at hb
  exact ⟨hb.1, by omega, hD⟩

/-- between: an entry that the walk back comes to is no -1 and lies on the table -/
theorem dist_le (A B : Nat → α) (n m : Nat) : dist A B n m ≤ n + m := by unfold dist; omega
end
end Go.Proofs.Ybulkajfi.Myers
