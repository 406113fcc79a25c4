/-
  THE WALK OF '(*editGraph).runs' (function 7), for whatever 'reach' and 'at' answer: both laws of this seat go by it.
-/
import Derived.Test.YbulkajfiProg
import Derived.WalkKit
import Derived.WalkSpells
import Derived.WalkSmall
import Derived.Deep.LoopGhost
import Derived.BigQuiet
import Derived.Below
namespace Go.Proofs.Ybulkajfi
open Go.RowKit
set_option linter.unusedVariables false

theorem asHid {p : Prop} (h : p) : Hid p := h

/-- the cells of a row of runs -/
def flat : List (Int × Int × Int) → List Value
  | [] => []
  | r :: rs => .int .i64 r.1 :: .int .i64 r.2.1 :: .int .i64 r.2.2 :: flat rs
theorem flat_append : ∀ (a b : List (Int × Int × Int)), flat (a ++ b) = flat a ++ flat b
  | [], b => rfl
  | r :: a, b => by simp [flat, flat_append a b]
theorem flat_length : ∀ (a : List (Int × Int × Int)), (flat a).length = a.length * 3
  | [] => rfl
  | r :: a => by simp [flat, flat_length a]; omega
theorem flat_at : ∀ (a : List (Int × Int × Int)) (i : Nat) (r : Int × Int × Int), a[i]? = some r →
    (flat a)[i * 3]? = some (.int .i64 r.1) ∧ (flat a)[i * 3 + 1]? = some (.int .i64 r.2.1) ∧ (flat a)[i * 3 + 2]? = some (.int .i64 r.2.2)
  | [], i, r, h => by simp at h
  | s :: a, 0, r, h => by simp at h; subst h; simp [flat]
  | s :: a, i + 1, r, h => by
    have := flat_at a i r (by simpa using h)
    have e0 : (i + 1) * 3 = i * 3 + 3 := by omega
    simp only [flat, e0]
    simpa using this

theorem cell_three_new (w : World) (a b c : Value) (t : TypeId) : ∀ j u, [a, b, c][j]? = some u → (w.alloc (.cells #[a, b, c] t)).cell? ((⟨w.heap.size, 0, none⟩ : Addr).add j) = some u := by
  intro j u hj
  match j, hj with
  | 0, hj => simp at hj; subst hj; simp [Addr.add]
  | 1, hj => simp at hj; subst hj; simp [Addr.add]
  | 2, hj => simp at hj; subst hj; simp [Addr.add]
  | j + 3, hj => simp at hj

theorem three_one (a b c : Int) : ∀ u ∈ [Value.int .i64 a, .int .i64 b, .int .i64 c], u.oneCell' = true := by
  intro u hu
  simp at hu
  rcases hu with rfl | rfl | rfl <;> rfl

/-- what one round of the first loop gathers, and all of them, in int's own arithmetic -/
def runW (start k x : Int) : List (Int × Int × Int) := if start < x then [(start, wrap64 (start - k), wrap64 (x - start))] else []
def backW (st fr at' : Nat → Int → Int) : Nat → Int → Int → List (Int × Int × Int)
  | 0, x, y => runW 0 (wrap64 (x - y)) x
  | d + 1, x, y => runW (st d (wrap64 (x - y))) (wrap64 (x - y)) x ++ backW st fr at' d (at' d (fr d (wrap64 (x - y)))) (wrap64 (at' d (fr d (wrap64 (x - y))) - fr d (wrap64 (x - y))))

theorem runW_length (s k x : Int) : (runW s k x).length ≤ 1 := by unfold runW; split <;> simp
theorem backW_length (st fr at' : Nat → Int → Int) : ∀ d x y, (backW st fr at' d x y).length ≤ d + 1
  | 0, x, y => by unfold backW; exact runW_length _ _ _
  | d + 1, x, y => by
    unfold backW
    have h1 := runW_length (st d (wrap64 (x - y))) (wrap64 (x - y)) x
    have h2 := backW_length st fr at' d (at' d (fr d (wrap64 (x - y)))) (wrap64 (at' d (fr d (wrap64 (x - y))) - fr d (wrap64 (x - y))))
    simp only [List.length_append]
    omega

theorem Yba.info31 : (Yba.prog.info? 31).map (fun i => (i.zero, i.size, i.bytes)) = some (some (.agg #[.int .i64 0, .int .i64 0, .int .i64 0]), 3, 24) := by kernel_rfl

/-- the state of the first loop: q - 1 edits are to be walked back, from (x, y); 'pre' is gathered -/
def Back (st fr at' : Nat → Int → Int) (L : List (Int × Int × Int)) (Inv : Nat → Int → Int → Prop) (B D : Nat) (w : World) (q : Nat) (s1 s2 s3 v : Value) (wr : World) : Prop :=
  ∃ (x y : Int) (pre : List (Int × Int × Int)), s1 = .int .i64 ((q : Int) - 1) ∧ s2 = .int .i64 x ∧ s3 = .int .i64 y ∧ q ≤ D + 1 ∧ pre.length + q ≤ D + 1 ∧
    wr.ownsRow B 31 3 v pre.length (flat pre) ∧ Below B w wr ∧ (q = 0 → pre = L) ∧ (∀ q', q = q' + 1 → Inv q' x y ∧ pre ++ backW st fr at' q' x y = L)

theorem back_start (st fr at' : Nat → Int → Int) (Inv : Nat → Int → Int → Prop) (D : Nat) (w : World) (x y : Int) (h0 : Inv D x y) :
    Back st fr at' (backW st fr at' D x y) Inv w.heap.size D w (D + 1) (.int .i64 (D : Int)) (.int .i64 x) (.int .i64 y) (.slice none 0 0) w := by
  refine ⟨x, y, [], by congr 1; omega, rfl, rfl, Nat.le_refl _, by simp, World.ownsRow_nil _ _ _ _, Below.refl _ _, fun h => by omega, fun q' h => ?_⟩
  obtain rfl : q' = D := by omega
  exact ⟨h0, rfl⟩

/-- what a round does to the first loop's state -/
theorem back_next0 {st fr at' : Nat → Int → Int} {L : List (Int × Int × Int)} {Inv : Nat → Int → Int → Prop} {B D : Nat} {w wr : World} {x y : Int} {pre new : List (Int × Int × Int)} {v : Value}
    (hL : pre ++ backW st fr at' 0 x y = L) (hn : runW 0 (wrap64 (x - y)) x = new) (hlen : pre.length + 1 ≤ D + 1) (ho : wr.ownsRow B 31 3 v (pre ++ new).length (flat (pre ++ new))) (hb : Below B w wr) :
    Back st fr at' L Inv B D w 0 (.int .i64 (-1)) (.int .i64 x) (.int .i64 y) v wr := by
  refine ⟨x, y, pre ++ new, rfl, rfl, rfl, by omega, ?_, ho, hb, fun _ => ?_, fun q' h => by omega⟩
  · have := runW_length 0 (wrap64 (x - y)) x
    rw [hn] at this
    simp only [List.length_append]
    omega
  · rw [← hL, ← hn]; rfl
theorem back_next {st fr at' : Nat → Int → Int} {L : List (Int × Int × Int)} {Inv : Nat → Int → Int → Prop} {B D e : Nat} {w wr : World} {x y : Int} {pre new : List (Int × Int × Int)} {v : Value}
    (hL : pre ++ backW st fr at' (e + 1) x y = L) (hn : runW (st e (wrap64 (x - y))) (wrap64 (x - y)) x = new) (hlen : pre.length + (e + 1 + 1) ≤ D + 1) (ho : wr.ownsRow B 31 3 v (pre ++ new).length (flat (pre ++ new))) (hb : Below B w wr)
    (hi : Inv e (at' e (fr e (wrap64 (x - y)))) (wrap64 (at' e (fr e (wrap64 (x - y))) - fr e (wrap64 (x - y))))) :
    Back st fr at' L Inv B D w (e + 1) (.int .i64 (e : Int)) (.int .i64 (at' e (fr e (wrap64 (x - y))))) (.int .i64 (wrap64 (at' e (fr e (wrap64 (x - y))) - fr e (wrap64 (x - y))))) v wr := by
  refine ⟨_, _, pre ++ new, by congr 1; omega, rfl, rfl, by omega, ?_, ho, hb, fun h => by omega, fun q' h => ?_⟩
  · have := runW_length (st e (wrap64 (x - y))) (wrap64 (x - y)) x
    rw [hn] at this
    simp only [List.length_append]
    omega
  · obtain rfl : q' = e := by omega
    refine ⟨hi, ?_⟩
    rw [← hL, ← hn, List.append_assoc]
    rfl
/-- a slice that has been appended to -/
theorem own_grown {w wr w3 : World} {B : Nat} {v v' : Value} {o : Obj} {pre : List (Int × Int × Int)} {r : Int × Int × Int} (hown : wr.ownsRow B 31 3 v pre.length (flat pre)) (hB : B ≤ wr.heap.size) (hbel : Below B w wr)
    (hown' : w3.ownsRow B 31 3 v' (pre.length + 1) (flat pre ++ [.int .i64 r.1, .int .i64 r.2.1, .int .i64 r.2.2])) (hg : (wr.alloc o).grownBy w3 v.ownBlock) :
    w3.ownsRow B 31 3 v' (pre ++ [r]).length (flat (pre ++ [r])) ∧ Below B w w3 := by
  refine ⟨by rw [flat_append]; simpa [flat] using hown', Below.grown (hbel.alloc hB o) hg (by simp; omega) (fun j hj => (hown.lt _ hj).1)⟩

/-- the state of the second loop: the last elements, t of them not, have been set down in their order -/
def Turn (B : Nat) (w : World) (pre : List (Int × Int × Int)) (g1 c1 g2 : Nat) (t : Nat) (v s : Value) (wr : World) : Prop :=
  ∃ n : Nat, n + t = pre.length ∧ v = .slice (some ⟨g2, 0, none⟩) n pre.length ∧ s = .int .i64 ((t : Int) - 1) ∧ wr.ownsRow B 31 3 (.slice (some ⟨g2, 0, none⟩) n pre.length) n (flat (pre.drop t).reverse) ∧
    wr.ownsRow B 31 3 (.slice (some ⟨g1, 0, none⟩) pre.length c1) pre.length (flat pre) ∧ Below B w wr
theorem turn_next {B : Nat} {w wr w3 : World} {pre : List (Int × Int × Int)} {g1 c1 g2 t n : Nat} {r : Int × Int × Int} {o : Obj} (hr : pre[t]? = some r) (hn : n + (t + 1) = pre.length) (hne : g1 ≠ g2) (hB : B ≤ wr.heap.size) (hB2 : B ≤ g2)
    (h1 : wr.ownsRow B 31 3 (.slice (some ⟨g1, 0, none⟩) pre.length c1) pre.length (flat pre)) (hbel : Below B w wr)
    (h2 : w3.ownsRow B 31 3 (.slice (some ⟨g2, 0, none⟩) (n + 1) pre.length) (n + 1) (flat (pre.drop (t + 1)).reverse ++ [.int .i64 r.1, .int .i64 r.2.1, .int .i64 r.2.2])) (hg : (wr.alloc o).grownBy w3 (some g2)) :
    Turn B w pre g1 c1 g2 t (.slice (some ⟨g2, 0, none⟩) (n + 1) pre.length) (.int .i64 ((t : Int) - 1)) w3 := by
  have e : pre.drop t = r :: pre.drop (t + 1) := by
    have ht : t < pre.length := by omega
    rw [List.drop_eq_getElem_cons ht]
    congr 1
    rw [List.getElem?_eq_getElem ht] at hr
    exact Option.some.inj hr
  refine ⟨n + 1, by omega, rfl, rfl, ?_, ?_, ?_⟩
  · rw [e, List.reverse_cons, flat_append]; exact h2
  · exact (h1.alloc o).kept hg (.inr (by simp [Value.ownBlock]; exact hne))
  · exact Below.grown (hbel.alloc hB o) hg (by simp; omega) (fun k hk => by cases hk; exact hB2)

set_option maxHeartbeats 1600000 in
theorem runs_any (g : Value) (st fr at' : Nat → Int → Int) (Inv : Nat → Int → Int → Prop) (w : World)
    (hreach : ∀ d x y, Inv (d + 1) x y → ∀ wr, Below w.heap.size w wr → Calls Yba.prog 10 #[g, .int .i64 ((d : Int) + 1), .int .i64 (wrap64 (x - y))] wr fun e w' =>
      e = .returned (.tuple #[.int .i64 (st d (wrap64 (x - y))), .int .i64 (fr d (wrap64 (x - y)))]) ∧ wr = w')
    (hat : ∀ d x y, Inv (d + 1) x y → ∀ wr, Below w.heap.size w wr → Calls Yba.prog 11 #[g, .int .i64 (d : Int), .int .i64 (fr d (wrap64 (x - y)))] wr fun e w' =>
      e = .returned (.int .i64 (at' d (fr d (wrap64 (x - y))))) ∧ wr = w')
    (hinv : ∀ d x y, Inv (d + 1) x y → Inv d (at' d (fr d (wrap64 (x - y)))) (wrap64 (at' d (fr d (wrap64 (x - y))) - fr d (wrap64 (x - y)))))
    (D : Nat) (hD : D ≤ 1000) (x y : Int) (h0 : Inv D x y) :
    Calls Yba.prog 7 #[g, .int .i64 (D : Int), .int .i64 x, .int .i64 y] w fun e w' =>
      ∃ v, e = .returned v ∧ w'.ownsRow w.heap.size 31 3 v (backW st fr at' D x y).length (flat (backW st fr at' D x y).reverse) ∧ Below w.heap.size w w' := by
  obtain ⟨i0, hi, hz0, hz1, hz2⟩ := info_parts Yba.info31
  have HR := asHid hreach
  have HA := asHid hat
  have HI := asHid hinv
  clear hreach hat hinv
  go_enter Yba.func7, Yba.ntmps7
  go_wp2
  go_loopg [1, 2, 3, 9] (D + 1) (fun q s1 s2 s3 v wr => Back st fr at' (backW st fr at' D x y) Inv w.heap.size D w q s1 s2 s3 v wr)
  case atStart => exact back_start st fr at' Inv D w x y h0
  case round =>
    obtain ⟨x1, y1, pre, rfl, rfl, rfl, hq, hlen, hown, hbel, hz, hs⟩ := hrel
    have hB : w.heap.size ≤ wr.heap.size := hbel.size
    cases gk with
    | zero =>
      have hL := asHid (hz rfl)
      clear hz hs
      have e1 : (((0 : Nat) : Int) - 1) = -1 := rfl
      rw [e1]
      rcases hown.2 with ⟨rfl, hn0⟩ | ⟨g1, c1, cur, rfl, hg1, hcur, hnc, hc, _, _⟩
      · have hp0 : pre = [] := List.length_eq_zero_iff.1 hn0
        subst hp0
        clear hn0
        go_wp2_with (at_make; refine wpList_make_own _ rfl (.const (.int .i64 0)) (.tmp 56) 28 rfl w.heap.size 31 i0 (.agg #[.int .i64 0, .int .i64 0, .int .i64 0]) 3 Yba.underlying28 hi hz0 hz1 .i64 .i64 0 0 rfl rfl rfl (by omega) (by unfold maxLen; omega) hB ?_; intro w2 hown2 hgrow2)
        refine wp_loop_rounds 1 ?_
        rw [rounds_succ]
        go_wp2
        refine bodyPost_ret (v := .slice (some ⟨wr.heap.size, 0, none⟩) 0 0) (by simp [results, Yba.results7, go_sem]) rfl ⟨_, rfl, ?_, ?_⟩
        · rw [← hL.out]; exact hown2
        · exact Below.grown hbel hgrow2 hB (fun k hk => by cases hk)
      · have hlt1 : g1 < wr.heap.size := (hown.lt _ rfl).2
        go_wp2_with (at_make; refine wpList_make_own _ rfl (.const (.int .i64 0)) (.tmp 56) 28 rfl w.heap.size 31 i0 (.agg #[.int .i64 0, .int .i64 0, .int .i64 0]) 3 Yba.underlying28 hi hz0 hz1 .i64 .i64 (pre.length : Int) pre.length rfl rfl rfl (by rw [hz2]; omega) (by unfold maxLen; omega) hB ?_; intro w2 hown2 hgrow2)
        have hne : g1 ≠ wr.heap.size := by omega
        have hk1 := hown.kept hgrow2 (.inr (by simp [Value.ownBlock]))
        have hb1 : Below w.heap.size w w2 := Below.grown hbel hgrow2 hB (fun k hk => by cases hk)
        have hB2 : w.heap.size ≤ wr.heap.size := hB
        have c31 : Yba.prog.cellsOf 31 = 3 := by kernel_rfl
        clear hown hcur hbel hgrow2
        generalize wr.heap.size = g2 at *
        go_loopg [13, 14] pre.length (fun t v i wr2 => Turn w.heap.size w pre g1 c1 g2 t v i wr2)
        case atStart => exact ⟨0, by omega, rfl, rfl, by simpa [flat] using hown2, hk1, hb1⟩
        case round =>
          obtain ⟨n, hn, rfl, rfl, ho2, ho1, hb2⟩ := hrel
          clear hown2 hk1 hb1
          have hB3 : w.heap.size ≤ wr.heap.size := hb2.size
          cases gk with
          | zero =>
            have e3 : (((0 : Nat) : Int) - 1) = -1 := rfl
            rw [e3]
            go_wp2
            refine bodyPost_ret (v := .slice (some ⟨g2, 0, none⟩) n pre.length) (by simp [results, Yba.results7, go_sem]) rfl ⟨_, rfl, ?_, hb2⟩
            rw [← hL.out]
            obtain rfl : n = pre.length := by omega
            simpa using ho2
          | succ t =>
            have e3 : (((t + 1 : Nat) : Int) - 1) = (t : Int) := by omega
            rw [e3]
            have ht : t < pre.length := by omega
            obtain ⟨r, hr⟩ : ∃ r, pre[t]? = some r := ⟨_, List.getElem?_eq_getElem ht⟩
            obtain ⟨f0, f1, f2⟩ := flat_at pre t r hr
            have k0 : wr.cell? ⟨g1, t * 3, none⟩ = some (.int .i64 r.1) := (ho1.cellAt (t * 3) (by omega)).trans f0
            have k1 : wr.cell? ⟨g1, t * 3 + 1, none⟩ = some (.int .i64 r.2.1) := (ho1.cellAt (t * 3 + 1) (by omega)).trans f1
            have k2 : wr.cell? ⟨g1, t * 3 + 2, none⟩ = some (.int .i64 r.2.2) := (ho1.cellAt (t * 3 + 2) (by omega)).trans f2
            have HR3 := asHid hr
            clear f0 f1 f2 hr
            have ht2 : (t : Int) < (pre.length : Int) := by omega
            go_wp2_with (at_builtin; refine wpList_append_fits _ rfl (.tmp 65) (.tmp 70) 28 rfl w.heap.size 31 i0 3 Yba.underlying28 hi hz1 g2 n pre.length (flat (pre.drop (t + 1)).reverse) rfl (ho2.alloc _) ⟨wr.heap.size, 0, none⟩ 1 1 [.int .i64 r.1, .int .i64 r.2.1, .int .i64 r.2.2] rfl rfl (cell_three_new _ _ _ _ _) (three_one _ _ _) (by omega) ?_; intro w3 hown3 hgrow3; have X := asHid (turn_next (w := w) HR3.out hn hne hB3 hB2 ho1 hb2 hown3 hgrow3); clear hown3 hgrow3)
            go_roundg t
            case rel => exact X.out
            case measure => omega
    | succ q =>
      have hIL := asHid (hs q rfl)
      clear hz hs
      have e1 : (((q + 1 : Nat) : Int) - 1) = (q : Int) := by omega
      rw [e1]
      cases q with
      | zero =>
        have e0 : ((0 : Nat) : Int) = 0 := rfl
        rw [e0]
        by_cases hx : 0 < x1
        · go_wp2_with (first
            | (at_builtin; refine wpList_append_own _ rfl (.tmp 34) (.tmp 43) 28 rfl w.heap.size 31 i0 (.agg #[.int .i64 0, .int .i64 0, .int .i64 0]) 3 24 Yba.underlying28 hi hz0 hz1 hz2 rfl (by decide) _ _ _ rfl (hown.alloc _) ⟨wr.heap.size, 0, none⟩ 1 1 [.int .i64 0, .int .i64 (wrap64 (-wrap64 (x1 - y1))), .int .i64 (wrap64 x1)] rfl rfl (cell_three_new _ _ _ _ _) (three_one _ _ _) (by unfold maxLen; omega) (by omega) (by simp; omega) ?_; intro v' w3 hown' hgrow hnil; have X := asHid (own_grown (r := (0, wrap64 (-wrap64 (x1 - y1)), wrap64 x1)) hown hB hbel hown' hgrow); clear hown' hgrow hnil))
          go_roundg 0
          case rel => exact back_next0 (hIL.out).2 (by rw [runW, if_pos hx, Int.zero_sub, Int.sub_zero]) (by omega) X.out.1 X.out.2
          case measure => omega
        · go_wp2_with fail
          go_roundg 0
          case rel => exact back_next0 (new := []) (hIL.out).2 (by rw [runW, if_neg (by omega)]) (by omega) (by simpa using hown) hbel
          case measure => omega
      | succ e =>
        have e2 : (((e + 1 : Nat) : Int)) = (e : Int) + 1 := by omega
        rw [e2]
        have HI2 := asHid (HI.out e x1 y1 (hIL.out).1)
        by_cases hx : st e (wrap64 (x1 - y1)) < x1
        · go_wp2_with (first
            | (go_at_call 10; refine (HR.out e x1 y1 (hIL.out).1 wr hbel).mono ?_; rintro e' w' ⟨rfl, rfl⟩)
            | (at_builtin; refine wpList_append_own _ rfl (.tmp 34) (.tmp 43) 28 rfl w.heap.size 31 i0 (.agg #[.int .i64 0, .int .i64 0, .int .i64 0]) 3 24 Yba.underlying28 hi hz0 hz1 hz2 rfl (by decide) _ _ _ rfl (hown.alloc _) ⟨wr.heap.size, 0, none⟩ 1 1 [.int .i64 (st e (wrap64 (x1 - y1))), .int .i64 (wrap64 (st e (wrap64 (x1 - y1)) - wrap64 (x1 - y1))), .int .i64 (wrap64 (x1 - st e (wrap64 (x1 - y1))))] rfl rfl (cell_three_new _ _ _ _ _) (three_one _ _ _) (by unfold maxLen; omega) (by omega) (by simp; omega) ?_; intro v' w3 hown' hgrow hnil; have X := asHid (own_grown (r := (st e (wrap64 (x1 - y1)), wrap64 (st e (wrap64 (x1 - y1)) - wrap64 (x1 - y1)), wrap64 (x1 - st e (wrap64 (x1 - y1))))) hown hB hbel hown' hgrow); clear hown' hgrow hnil)
            | (go_at_call 11; refine (HA.out e x1 y1 (hIL.out).1 w3 X.out.2).mono ?_; rintro e' w' ⟨rfl, rfl⟩))
          go_roundg (e + 1)
          case rel => exact back_next (hIL.out).2 (by rw [runW, if_pos hx]) (by omega) X.out.1 X.out.2 HI2.out
          case measure => omega
        · go_wp2_with (first
            | (go_at_call 10; refine (HR.out e x1 y1 (hIL.out).1 wr hbel).mono ?_; rintro e' w' ⟨rfl, rfl⟩)
            | (go_at_call 11; refine (HA.out e x1 y1 (hIL.out).1 wr hbel).mono ?_; rintro e' w' ⟨rfl, rfl⟩))
          go_roundg (e + 1)
          case rel => exact back_next (new := []) (hIL.out).2 (by rw [runW, if_neg (by omega)]) (by omega) (by simpa using hown) hbel HI2.out
          case measure => omega

end Go.Proofs.Ybulkajfi
