/-
  'runs' ON A FILLED TABLE: from the corner it gives the runs of the plain law.
-/
import Derived.Test.YbulkajfiTable
import Derived.Test.YbulkajfiRuns
namespace Go.Proofs.Ybulkajfi
open Go.RowKit
set_option linter.unusedVariables false

theorem wrap_small (x : Int) (h1 : -10000 ≤ x) (h2 : x ≤ 10000) : wrap64 x = x := by unfold wrap64; omega

section
variable (A B : Nat → ByteArray) (n m : Nat)
def stF (d : Nat) (k : Int) : Int := Myers.pick n m (Myers.look (Myers.reach A B n m d) d (k + 1)) (Myers.look (Myers.reach A B n m d) d (k - 1)) k
def frF (d : Nat) (k : Int) : Int := Myers.from' n m (Myers.look (Myers.reach A B n m d) d (k + 1)) (Myers.look (Myers.reach A B n m d) d (k - 1)) k
def atF (d : Nat) (k : Int) : Int := Myers.look (Myers.reach A B n m d) d k

/-- (x, y) is an entry of the table, d edits on -/
def OnTab (D : Nat) (d : Nat) (x y : Int) : Prop := d ≤ D ∧ ∃ i : Nat, i ≤ d ∧ x = Myers.reach A B n m d i ∧ 0 ≤ x ∧ y = x - (2 * (i : Int) - d)

theorem onTab_bd {D d : Nat} {x y : Int} (h : OnTab A B n m D d x y) : 0 ≤ x ∧ x ≤ n ∧ 0 ≤ y ∧ y ≤ m := by
  obtain ⟨_, i, hi, hx, h0, hy⟩ := h
  rcases Myers.entry_ok A B n m d i hi with h | ⟨g1, g2, g3, g4, _⟩
  · omega
  · rw [← hx] at g1 g2 g3 g4
    omega

theorem onTab_prev {D d : Nat} {x y : Int} (h : OnTab A B n m D (d + 1) x y) : OnTab A B n m D d (atF A B n m d (frF A B n m d (x - y))) (atF A B n m d (frF A B n m d (x - y)) - frF A B n m d (x - y)) := by
  obtain ⟨hd, i, hi, hx, h0, hy⟩ := h
  have hk : x - y = 2 * (i : Int) - (d + 1) := by omega
  rw [hk]
  have hr : Myers.reach A B n m (d + 1) i = Myers.fill A B n m (stF A B n m d (2 * (i : Int) - (d + 1))) (2 * (i : Int) - (d + 1)) := rfl
  have hp : 0 ≤ stF A B n m d (2 * (i : Int) - (d + 1)) := by
    by_cases c : 0 ≤ stF A B n m d (2 * (i : Int) - (d + 1))
    · exact c
    · unfold Myers.fill at hr
      rw [if_neg c] at hr
      omega
  refine ⟨by omega, ?_⟩
  rcases Myers.pick_from n m _ _ _ hp with ⟨f1, f2, f3⟩ | ⟨f1, f2, f3⟩
  · have e := Myers.look_q (Myers.reach A B n m d) d i hi
    have hi1 : 1 ≤ i := by
      by_cases c : 1 ≤ i
      · exact c
      · rw [if_neg c] at e; omega
    rw [if_pos hi1] at e
    have ef : frF A B n m d (2 * (i : Int) - (d + 1)) = 2 * ((i - 1 : Nat) : Int) - d := by show Myers.from' _ _ _ _ _ = _; rw [f1]; omega
    rw [ef]
    have ea : atF A B n m d (2 * ((i - 1 : Nat) : Int) - d) = Myers.reach A B n m d (i - 1) := Myers.look_in _ _ _ (by omega)
    exact ⟨i - 1, by omega, ea, by rw [ea]; omega, rfl⟩
  · have e := Myers.look_p (Myers.reach A B n m d) d i
    have hi1 : i ≤ d := by
      by_cases c : i ≤ d
      · exact c
      · rw [if_neg c] at e; omega
    rw [if_pos hi1] at e
    have ef : frF A B n m d (2 * (i : Int) - (d + 1)) = 2 * (i : Int) - d := by show Myers.from' _ _ _ _ _ = _; rw [f1]; omega
    rw [ef]
    have ea : atF A B n m d (2 * (i : Int) - d) = Myers.reach A B n m d i := Myers.look_in _ _ _ hi1
    exact ⟨i, hi1, ea, by rw [ea]; omega, rfl⟩

theorem stF_bd (d : Nat) (k : Int) (hn : n ≤ 300) : -1 ≤ stF A B n m d k ∧ stF A B n m d k ≤ 301 := by
  have h : ∀ k, -1 ≤ Myers.look (Myers.reach A B n m d) d k ∧ Myers.look (Myers.reach A B n m d) d k ≤ 300 := by
    intro k
    unfold Myers.look
    split
    · omega
    · have := reach_bd A B n m d ((k + d) / 2).toNat (by omega)
      omega
  have h1 := h (k + 1)
  have h2 := h (k - 1)
  unfold stF Myers.pick Myers.down
  generalize Myers.look (Myers.reach A B n m d) d (k + 1) = p at *
  generalize Myers.look (Myers.reach A B n m d) d (k - 1) = q at *
  by_cases c : 0 ≤ p ∧ p - (k + 1) < m
  · rw [if_pos c]
    split <;> omega
  · rw [if_neg c]
    split <;> omega

theorem runW_eq (s k x : Int) (h1 : -1 ≤ s) (h2 : s ≤ 301) (h3 : -600 ≤ k) (h4 : k ≤ 600) (h5 : 0 ≤ x) (h6 : x ≤ 300) : runW s k x = Myers.runOf s k x := by
  unfold runW Myers.runOf
  rw [wrap_small (s - k) (by omega) (by omega), wrap_small (x - s) (by omega) (by omega)]

theorem backW_eq (D : Nat) (hn : n ≤ 300) (hm : m ≤ 300) : ∀ d x y, OnTab A B n m D d x y → backW (stF A B n m) (frF A B n m) (atF A B n m) d x y = Myers.back A B n m d x y := by
  intro d
  induction d with
  | zero =>
    intro x y h
    have hb := onTab_bd A B n m h
    unfold backW Myers.back
    rw [wrap_small (x - y) (by omega) (by omega)]
    exact runW_eq 0 (x - y) x (by omega) (by omega) (by omega) (by omega) (by omega) (by omega)
  | succ d ih =>
    intro x y h
    have hb := onTab_bd A B n m h
    have hp := onTab_prev A B n m h
    have hpb := onTab_bd A B n m hp
    unfold backW Myers.back
    rw [wrap_small (x - y) (by omega) (by omega), wrap_small (atF A B n m d (frF A B n m d (x - y)) - frF A B n m d (x - y)) (by omega) (by omega)]
    have hs := stF_bd A B n m d (x - y) hn
    rw [runW_eq _ (x - y) x hs.1 hs.2 (by omega) (by omega) (by omega) (by omega), ih _ _ hp]
    rfl

/-- the corner is an entry -/
theorem corner : OnTab A B n m (Myers.dist A B n m) (Myers.dist A B n m) n m := by
  have hh := (Myers.hit A B n m (Myers.dist A B n m) (Nat.le_refl _)).2 rfl
  have hin : ¬ ((n : Int) - m < -(Myers.dist A B n m : Int) ∨ (Myers.dist A B n m : Int) < (n : Int) - m) := by
    intro h
    rw [Myers.look_out _ _ _ h] at hh
    omega
  unfold Myers.look at hh
  rw [if_neg hin] at hh
  have hD := (Myers.runs_ok A B n m).2.2
  exact ⟨Nat.le_refl _, (((n : Int) - m + Myers.dist A B n m) / 2).toNat, by omega, hh.symm, by omega, by omega⟩
end

/-- 'runs' from the corner -/
theorem runs_tab (A B : Nat → ByteArray) {p n ca m cb gf cf : Nat} {a b : Option Addr} (rb : Nat → Nat) (w : World) (hn : n ≤ 300) (hm : m ≤ 300)
    (hG : Graph w p a b n ca m cb gf (Myers.dist A B n m + 1) cf)
    (hg : ∀ j, j ≤ Myers.dist A B n m → w.cell? ⟨gf, j, none⟩ = some (.slice (some ⟨rb j, 0, none⟩) (j + 1) (j + 1)) ∧ ∀ i, i ≤ j → w.cell? ⟨rb j, i, none⟩ = some (.int .i64 (Myers.reach A B n m j i))) :
    Calls Yba.prog 7 #[.pointer (some ⟨p, 0, none⟩), .int .i64 (Myers.dist A B n m : Int), .int .i64 (n : Int), .int .i64 (m : Int)] w fun e w' =>
      ∃ v, e = .returned v ∧ w'.ownsRow w.heap.size 31 3 v (Myers.back A B n m (Myers.dist A B n m) n m).reverse.length (flat (Myers.back A B n m (Myers.dist A B n m) n m).reverse) ∧ Below w.heap.size w w' := by
  have hD := Myers.dist_le A B n m
  have keep : ∀ wr, Below w.heap.size w wr → ∀ (a : Addr) (v : Value), w.cell? a = some v → wr.cell? a = some v := fun wr h a v hc => (h.cell (World.block_lt_of_cell? _ _ hc)).trans hc
  have hG2 : ∀ wr, Below w.heap.size w wr → Graph wr p a b n ca m cb gf (Myers.dist A B n m + 1) cf := fun wr h => ⟨keep wr h _ _ hG.ca, keep wr h _ _ hG.cb, keep wr h _ _ hG.cf⟩
  have hfb : ∀ d i, i ≤ d → -1 ≤ Myers.reach A B n m d i ∧ Myers.reach A B n m d i ≤ 1000 := fun d i h => by have := reach_bd A B n m d i h; omega
  have hr := runs_any (.pointer (some ⟨p, 0, none⟩)) (stF A B n m) (frF A B n m) (atF A B n m) (OnTab A B n m (Myers.dist A B n m)) w
    (fun d x y h wr hb => by
      have bd := onTab_bd A B n m h
      have hdD : d + 1 ≤ Myers.dist A B n m := h.1
      rw [wrap_small (x - y) (by omega) (by omega)]
      exact reach_any (rb d) d (x - y) (Myers.reach A B n m d) wr (hG2 wr hb) (by omega) (by omega) (by omega) (by omega) (hfb d) (by omega) (by omega) (keep wr hb _ _ (hg d (by omega)).1) (fun i hi => keep wr hb _ _ ((hg d (by omega)).2 i hi)))
    (fun d x y h wr hb => by
      have bd := onTab_bd A B n m h
      have hdD : d + 1 ≤ Myers.dist A B n m := h.1
      have hp := onTab_prev A B n m h
      have pb := onTab_bd A B n m hp
      rw [wrap_small (x - y) (by omega) (by omega)]
      exact at_any (rb d) d _ (Myers.reach A B n m d) wr (hG2 wr hb) (by omega) (by omega) (by omega) (by omega) (keep wr hb _ _ (hg d (by omega)).1) (fun i hi => keep wr hb _ _ ((hg d (by omega)).2 i hi)))
    (fun d x y h => by
      have bd := onTab_bd A B n m h
      have hp := onTab_prev A B n m h
      have pb := onTab_bd A B n m hp
      rw [wrap_small (x - y) (by omega) (by omega), wrap_small (atF A B n m d (frF A B n m d (x - y)) - frF A B n m d (x - y)) (by omega) (by omega)]
      exact hp)
    (Myers.dist A B n m) (by omega) n m (corner A B n m)
  rw [backW_eq A B n m (Myers.dist A B n m) hn hm _ _ _ (corner A B n m)] at hr
  rw [List.length_reverse]
  exact hr

end Go.Proofs.Ybulkajfi
