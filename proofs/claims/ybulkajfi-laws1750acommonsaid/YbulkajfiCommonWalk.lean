/-
  THE WALK OF 'LawS1750ACommon' (3), over the contracts of all that it calls.
-/
import Derived.Test.YbulkajfiItems
import Derived.Test.YbulkajfiGraph
import Derived.Test.YbulkajfiBack
namespace Go.Proofs.Ybulkajfi
open Go.RowKit
set_option linter.unusedVariables false

theorem two_of {w1 w2 : World} {g1 g2 n m : Nat} {za zb : Nat → Int} (h1 : w1.rowIs g1 9 n (fun i => .string (item (za i)))) (h2 : w2.rowIs g2 9 m (fun i => .string (item (zb i)))) (hb : Below w1.heap.size w1 w2) :
    Two w2 (fun i => item (za i)) (fun i => item (zb i)) g1 g2 n m :=
  ⟨fun i hi => (hb.cell (p := ⟨g1, i, none⟩) h1.lt).trans (h1.cell hi), fun i hi => h2.cell hi⟩

/-- the state of the loop over the runs -/
structure Sums (A B : Nat → ByteArray) (n m : Nat) (rs : List (Int × Int × Int)) (i : Nat) (tot pa pb : Int) : Prop where
  chain : Myers.Chain A B (rs.drop i) pa pb n m
  sum : tot + Myers.sumN (rs.drop i) = Myers.sumN rs
  pa0 : 0 ≤ pa
  pb0 : 0 ≤ pb
  tot0 : 0 ≤ tot
  totn : tot ≤ pa

theorem drop_cons {rs : List (Int × Int × Int)} {i : Nat} {r : Int × Int × Int} (h : rs[i]? = some r) : rs.drop i = r :: rs.drop (i + 1) := by
  obtain ⟨hlt, he⟩ := List.getElem?_eq_some_iff.1 h
  rw [List.drop_eq_getElem_cons hlt, he]

theorem sums_at {A B : Nat → ByteArray} {n m : Nat} {rs : List (Int × Int × Int)} {i : Nat} {tot pa pb : Int} {r : Int × Int × Int} (h : Sums A B n m rs i tot pa pb) (hr : rs[i]? = some r) :
    0 < r.2.2 ∧ pa ≤ r.1 ∧ pb ≤ r.2.1 ∧ r.1 + r.2.2 ≤ n ∧ r.2.1 + r.2.2 ≤ m ∧ (∀ j : Nat, (j : Int) < r.2.2 → A (r.1 + j).toNat = B (r.2.1 + j).toNat) ∧ Sums A B n m rs (i + 1) (tot + r.2.2) (r.1 + r.2.2) (r.2.1 + r.2.2) := by
  obtain ⟨c, s, p1, p2, t1, t2⟩ := h
  rw [drop_cons hr] at c s
  obtain ⟨c1, c2, c3, c4, c5⟩ := c
  have hle := Myers.chain_le A B _ _ _ _ _ c5
  simp only [Myers.sumN] at s
  exact ⟨c1, c2, c3, hle.1, hle.2, c4, ⟨c5, by omega, by omega, by omega, by omega, by omega⟩⟩

/-- a row of runs, as the loop over it reads it: nil or not -/
theorem own_view {w : World} {B0 : Nat} {v : Value} {rs : List (Int × Int × Int)} (h : w.ownsRow B0 31 3 v rs.length (flat rs)) : ∃ (av : Option Addr) (g cap : Nat), v = .slice av rs.length cap ∧
    ∀ (i : Nat) (r : Int × Int × Int), rs[i]? = some r → av = some ⟨g, 0, none⟩ ∧ w.cell? ⟨g, i * 3, none⟩ = some (.int .i64 r.1) ∧ w.cell? ⟨g, i * 3 + 1, none⟩ = some (.int .i64 r.2.1) ∧ w.cell? ⟨g, i * 3 + 2, none⟩ = some (.int .i64 r.2.2) := by
  have ho := h
  rcases h.2 with ⟨rfl, hn⟩ | ⟨g, cap, cur, rfl, _⟩
  · refine ⟨none, 0, 0, by rw [hn], fun i r hr => ?_⟩
    have := (List.getElem?_eq_some_iff.1 hr).1
    omega
  · refine ⟨_, g, cap, rfl, fun i r hr => ?_⟩
    have hi := (List.getElem?_eq_some_iff.1 hr).1
    obtain ⟨f0, f1, f2⟩ := flat_at rs i r hr
    exact ⟨rfl, (ho.cellAt _ (by omega)).trans f0, (ho.cellAt _ (by omega)).trans f1, (ho.cellAt _ (by omega)).trans f2⟩

theorem chain_len (A B : Nat → ByteArray) : ∀ (rs : List (Int × Int × Int)) (pa pb x y : Int), Myers.Chain A B rs pa pb x y → (rs.length : Int) ≤ x - pa
  | [], pa, pb, x, y, h => by have := h.1; simp; omega
  | r :: rs, pa, pb, x, y, h => by
    have h1 := chain_len A B rs _ _ _ _ h.2.2.2.2
    have h2 := h.1
    have h3 := h.2.1
    simp only [List.length_cons]
    omega

theorem Yba.cells31 : Yba.prog.cellsOf 31 = 3 := by kernel_rfl

set_option maxRecDepth 1000000 in
set_option maxHeartbeats 1600000 in
theorem walk_core (a0 a1 : Option Addr) (b0 o0 n c0 b1 o1 m c1 : Nat) (z0 z1 : Nat → Int) (w : World) (hn : n ≤ 300) (hm : m ≤ 300)
    (ha0 : 0 < n → a0 = some ⟨b0, o0, none⟩) (hz0 : ∀ i, i < n → 0 ≤ z0 i ∧ z0 i ≤ 255) (hc0 : ∀ i, i < n → w.cell? ⟨b0, o0 + i, none⟩ = some (.int .u8 (z0 i)))
    (ha1 : 0 < m → a1 = some ⟨b1, o1, none⟩) (hz1 : ∀ i, i < m → 0 ≤ z1 i ∧ z1 i ≤ 255) (hc1 : ∀ i, i < m → w.cell? ⟨b1, o1 + i, none⟩ = some (.int .u8 (z1 i))) :
    Calls Yba.prog 3 #[.slice a0 n c0, .slice a1 m c1] w fun e w' => e = .returned (.bool true) ∧ Below w.heap.size w w' := by
  have H0 := toHid (items_any a0 b0 o0 n c0 z0 w hn ha0 hz0 hc0)
  have H1 : Hid (∀ w1, Below w.heap.size w w1 → Calls Yba.prog 5 #[.slice a1 m c1] w1 fun e w' => e = .returned (.slice (some ⟨w1.heap.size + 1, 0, none⟩) m m) ∧ w'.rowIs (w1.heap.size + 1) 9 m (fun i => .string (item (z1 i))) ∧ Below w1.heap.size w1 w') :=
    fun w1 hb => items_any a1 b1 o1 m c1 z1 w1 hm ha1 hz1 (fun i hi => (hb.cell (p := ⟨b1, o1 + i, none⟩) (World.block_lt_of_cell? _ _ (hc1 i hi))).trans (hc1 i hi))
  clear ha0 hz0 hc0 ha1 hz1 hc1
  obtain ⟨A, hA⟩ : ∃ A : Nat → ByteArray, A = fun i => item (z0 i) := ⟨_, rfl⟩
  obtain ⟨B, hB⟩ : ∃ B : Nat → ByteArray, B = fun i => item (z1 i) := ⟨_, rfl⟩
  have HA := toHid hA
  have HB := toHid hB
  clear hA hB
  go_enter Yba.func3, Yba.ntmps3
  go_wp2_with fail
  refine H0.out.mono ?_
  rintro e w1 ⟨rfl, hr1, hb1⟩
  have hr1' := toHid hr1
  have hb1' := toHid hb1
  clear hr1 hb1
  go_wp2_with fail
  refine (H1.out w1 hb1'.out).mono ?_
  rintro e w2 ⟨rfl, hr2, hb2⟩
  have h2 := two_of hr1'.out hr2 hb2
  rw [← HA.out, ← HB.out] at h2
  have hbw2 := toHid (hb1'.out.trans (hb2.mono hb1'.out.size))
  clear hr1' hb1' hr2 hb2 H0 H1 HA HB
  generalize w.heap.size + 1 = ga at *
  generalize w1.heap.size + 1 = gb at *
  go_wp2_with fail
  refine (graph_any A B ga gb n m n m w2 hn hm h2).mono ?_
  rintro e w3 ⟨p, gf, cf, rb, rfl, hG, hg, hb3⟩
  have h3 := toHid (h2.later hb3)
  have hbw3 := toHid (hbw2.out.trans (hb3.mono hbw2.out.size))
  have hR := toHid (runs_tab A B rb w3 hn hm hG hg)
  have hOK := toHid (Myers.runs_ok A B n m)
  have hDle := Myers.dist_le A B n m
  have hLe := Myers.tab_le A B n m
  clear hG hg hb3 h2 hbw2
  generalize Myers.back A B n m (Myers.dist A B n m) n m = bk at *
  generalize hDD : Myers.dist A B n m = D at *
  clear hDD
  go_wp2_with fail
  refine hR.out.mono ?_
  rintro e w4 ⟨v, rfl, hown, hb4⟩
  obtain ⟨av, g, cap, rfl, hv⟩ := own_view hown
  have hv' := toHid hv
  have hb4' := toHid hb4
  clear hown hb4 hv hR
  have hlen : bk.reverse.length ≤ 300 := by
    have h1 := chain_len A B _ _ _ _ _ hOK.out.1
    omega
  generalize bk.reverse = rs at *
  have c31 := Yba.cells31
  go_wp2_with fail
  go_loopg [10, 11, 12, 13] rs.length (fun q s10 s11 s12 s13 wr => ∃ (i : Nat) (tot pa pb : Int), i + q = rs.length ∧ s10 = .int .i64 tot ∧ s11 = .int .i64 pa ∧ s12 = .int .i64 pb ∧ s13 = .int .i64 (i : Int) ∧ Hid (Sums A B n m rs i tot pa pb) ∧ Below w4.heap.size w4 wr)
  case atStart => exact ⟨0, 0, 0, 0, by omega, rfl, rfl, rfl, rfl, ⟨hOK.out.1, by simp, by omega, by omega, by omega, by omega⟩, Below.refl _ _⟩
  case round =>
    obtain ⟨i, tot, pa, pb, hi, rfl, rfl, rfl, rfl, hS, hb5⟩ := hrel
    cases gk with
    | zero =>
      obtain rfl : i = rs.length := by omega
      have htot : tot = (Myers.lcsTab A B n m : Int) := by
        have h1 := hS.out.sum
        rw [List.drop_length] at h1
        have h2 := hOK.out.2.1
        simp only [Myers.sumN] at h1
        omega
      have hlast : (2 * (Myers.lcsTab A B n m : Int) == (n : Int) + (m : Int) - (D : Int)) = true := by
        have := hOK.out.2.2
        simp only [beq_iff_eq]
        omega
      have hL := toHid (lcs_any A B ga gb n m n m wr hn hm ((h3.out.later hb4'.out).later hb5))
      subst htot
      clear hS hi
      generalize Myers.lcsTab A B n m = T at *
      go_wp2_with (go_at_call 8; refine hL.out.mono ?_; rintro e' w6 ⟨rfl, hb6⟩)
      go_ret
      exact ⟨rfl, (hbw3.out.trans (hb4'.out.mono hbw3.out.size)).trans ((hb5.mono (Nat.le_trans hbw3.out.size hb4'.out.size)).trans (hb6.mono (Nat.le_trans hbw3.out.size (Nat.le_trans hb4'.out.size hb5.size))))⟩
    | succ q =>
      have hil : i < rs.length := by omega
      obtain ⟨r, hr⟩ : ∃ r, rs[i]? = some r := ⟨_, List.getElem?_eq_getElem hil⟩
      obtain ⟨s1, s2, s3, s4, s5, s6, s7⟩ := sums_at hS.out hr
      obtain ⟨rfl, k0, k1, k2⟩ := hv'.out i r hr
      obtain ⟨ra, rb0, rn⟩ := r
      have p0 := hS.out.pa0
      have p1 := hS.out.pb0
      simp only at s1 s2 s3 s4 s5 s6 s7 k0 k1 k2
      obtain ⟨an, rfl⟩ : ∃ an : Nat, ra = (an : Int) := ⟨ra.toNat, by omega⟩
      obtain ⟨bn, rfl⟩ : ∃ bn : Nat, rb0 = (bn : Int) := ⟨rb0.toNat, by omega⟩
      obtain ⟨cn, rfl⟩ : ∃ cn : Nat, rn = (cn : Int) := ⟨rn.toNat, by omega⟩
      have l0 := (hb5.cell (p := ⟨g, i * 3, none⟩) (World.block_lt_of_cell? _ _ k0)).trans k0
      have l1 := (hb5.cell (p := ⟨g, i * 3 + 1, none⟩) (World.block_lt_of_cell? _ _ k1)).trans k1
      have l2 := (hb5.cell (p := ⟨g, i * 3 + 2, none⟩) (World.block_lt_of_cell? _ _ k2)).trans k2
      have hiz : (i : Int) < (rs.length : Int) := by omega
      have s6' := toHid s6
      have s7' := toHid s7
      have hi' := toHid hi
      have t0 := hS.out.tot0
      have t1 := hS.out.totn
      have h5 := ((h3.out.later hb4'.out).later hb5).later ((Below.refl _ _).alloc (Nat.le_refl _) (.cells #[.int .i64 (an : Int), .int .i64 (bn : Int), .int .i64 (cn : Int)] 31))
      clear k0 k1 k2 s6 s7 hr hi
      go_wp2_with fail
      clear l0 l1 l2
      go_loopg [15] cn (fun t s15 wi => ∃ j nq : Nat, j + t = cn ∧ s15 = .int .i64 (j : Int) ∧ wi = (wr.alloc (.cells #[.int .i64 (an : Int), .int .i64 (bn : Int), .int .i64 (cn : Int)] 31)).drewN nq)
      case atStart => exact ⟨0, 0, by omega, rfl, rfl⟩
      case round =>
        obtain ⟨j, nq, hj, rfl, rfl⟩ := hrel
        cases gk with
        | zero =>
          obtain rfl : j = cn := by omega
          go_wp2
          go_quiet (fail)
          go_wp2
          go_roundg q
          case rel => exact ⟨i + 1, _, _, _, by have := hi'.out; omega, rfl, rfl, rfl, by go_num, s7'.out, below_drewN (hb5.alloc hb5.size _) _⟩
          case measure => omega
        | succ t =>
          have hjc : j < cn := by omega
          have ka := h5.ca (an + j) (by omega)
          have kb := h5.cb (bn + j) (by omega)
          have he : A (an + j) = B (bn + j) := by
            have := s6'.out j (by omega)
            have e1 : ((an : Int) + (j : Int)).toNat = an + j := by omega
            have e2 : ((bn : Int) + (j : Int)).toNat = bn + j := by omega
            rw [e1, e2] at this
            exact this
          rw [he] at ka
          have hj' := toHid hj
          clear hj he
          have i1 : (an : Int) + (j : Int) < (n : Int) := by omega
          have i2 : (bn : Int) + (j : Int) < (m : Int) := by omega
          have i3 : (j : Int) < (cn : Int) := by omega
          go_wp2
          go_quiet (fail)
          go_wp2
          go_roundg t
          case rel => exact ⟨j + 1, _, by have := hj'.out; omega, by go_num, rfl⟩
          case measure => omega

end Go.Proofs.Ybulkajfi
