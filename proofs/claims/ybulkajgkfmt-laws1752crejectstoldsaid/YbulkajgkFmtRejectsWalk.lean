/-
  THE WALK OF 'LawS1752CRejects' (4), over the contracts of all that it calls: FOR EVERY F.
-/
import Derived.Test.YbulkajgkFmtStripsWalk
namespace Go.Proofs.YbulkajgkFmt
open Go.RowKit Go.Extern.Stop Go.Stop Go.Extern
set_option linter.unusedVariables false

/-! ### Plain -/
def noLine : ByteArray × Int × Int := (⟨#[]⟩, 0, 0)
/-- the built lines with one set in at k -/
def withBad (P : List UInt8) (L : Nat → Ln) (n k : Nat) (bad : ByteArray × Int × Int) : List (ByteArray × Int × Int) := lines P L k ++ ([bad] ++ (lines P L n).drop k)
theorem lines_take (P : List UInt8) (L : Nat → Ln) (n k : Nat) (h : k ≤ n) : (lines P L n).take k = lines P L k := by
  simp [lines, ← List.map_take, List.take_range, Nat.min_eq_left h]
theorem lines_part (P : List UInt8) (L : Nat → Ln) (n k : Nat) (h : k ≤ n) : lines P L n = lines P L k ++ (lines P L n).drop k := by
  rw [← lines_take P L n k h, List.take_append_drop]
theorem withBad_length (P : List UInt8) (L : Nat → Ln) (n k : Nat) (h : k ≤ n) (bad : ByteArray × Int × Int) : (withBad P L n k bad).length = n + 1 := by
  simp [withBad, lines_length]; omega
theorem withBad_lt (P : List UInt8) (L : Nat → Ln) (n k : Nat) (bad : ByteArray × Int × Int) (i : Nat) (hi : i < k) : (withBad P L n k bad)[i]? = some (lnOf P (L i)) := by
  unfold withBad
  rw [List.getElem?_append_left (by rw [lines_length]; exact hi)]
  simp [lines, hi]
theorem withBad_at (P : List UInt8) (L : Nat → Ln) (n k : Nat) (bad : ByteArray × Int × Int) : (withBad P L n k bad)[k]? = some bad := by
  unfold withBad
  rw [List.getElem?_append_right (by rw [lines_length]; exact Nat.le_refl _), lines_length]
  simp

theorem fl_one : ∀ (a : List (ByteArray × Int × Int)), ∀ u ∈ fl a, u.oneCell' = true
  | [], u, h => by simp [fl] at h
  | r :: a, u, h => by
    simp only [fl, List.mem_cons] at h
    rcases h with rfl | rfl | rfl | h
    · rfl
    · rfl
    · rfl
    · exact fl_one a u h

theorem cells_of_row {w : World} {B0 g N cap : Nat} {rs : List (ByteArray × Int × Int)} (h : w.ownsRow B0 35 3 (.slice (some ⟨g, 0, none⟩) N cap) N (fl rs)) (hl : rs.length = N) :
    Cells3 w g N (fun i => (rs[i]?.getD noLine).1) (fun i => (rs[i]?.getD noLine).2.1) (fun i => (rs[i]?.getD noLine).2.2) := by
  have hat : ∀ i, i < N → rs[i]? = some (rs[i]?.getD noLine) := fun i hi => by
    rw [List.getElem?_eq_getElem (by omega)]
    rfl
  refine ⟨fun i hi => ?_, fun i hi => ?_, fun i hi => ?_⟩
  · exact (h.cellAt _ (by omega)).trans (fl_at _ i _ (hat i hi)).1
  · exact (h.cellAt _ (by omega)).trans (fl_at _ i _ (hat i hi)).2.1
  · exact (h.cellAt _ (by omega)).trans (fl_at _ i _ (hat i hi)).2.2

/-- the cells of 'lines[:k]' and of 'lines[k:]' -/
theorem head_cells {w wr : World} {P : List UInt8} {L : Nat → Ln} {n g1 g2 k : Nat} (h : BuildIn w wr P L n g1 g2 n n) (hk : k ≤ n) : ∀ j u, (fl (lines P L k))[j]? = some u → wr.cell? ((⟨g1, 0, none⟩ : Addr).add j) = some u := by
  intro j u hj
  have hlt := (List.getElem?_eq_some_iff.1 hj).1
  rw [fl_length, lines_length] at hlt
  rw [WideShapes.add_plain, Nat.zero_add, h.out.cellAt j (by omega), lines_part P L n k hk, fl_append, List.getElem?_append_left (by rw [fl_length, lines_length]; exact hlt)]
  exact hj
theorem tail_cells {w wr : World} {P : List UInt8} {L : Nat → Ln} {n g1 g2 k : Nat} (h : BuildIn w wr P L n g1 g2 n n) (hk : k ≤ n) : ∀ j u, (fl ((lines P L n).drop k))[j]? = some u → wr.cell? ⟨g1, k * 3 + j, none⟩ = some u := by
  intro j u hj
  have hlt := (List.getElem?_eq_some_iff.1 hj).1
  rw [fl_length, List.length_drop, lines_length] at hlt
  have e : (fl (lines P L n))[k * 3 + j]? = some u := by
    rw [lines_part P L n k hk, fl_append, List.getElem?_append_right (by rw [fl_length, lines_length]; omega), fl_length, lines_length, Nat.add_sub_cancel_left]
    exact hj
  rw [h.out.cellAt _ (by omega)]
  exact e

theorem tail_any {w wr : World} {P : List UInt8} {L : Nat → Ln} {n g1 g2 k : Nat} (h : BuildIn w wr P L n g1 g2 n n) (hk : k ≤ n) {ad : Addr} (had : (if n = k then some (⟨g1, 0, none⟩ : Addr) else some ⟨g1, k * 3, none⟩) = some ad) :
    ∀ j u, (fl ((lines P L n).drop k))[j]? = some u → wr.cell? (ad.add j) = some u := by
  intro j u hj
  by_cases e : n = k
  · have hlt := (List.getElem?_eq_some_iff.1 hj).1
    rw [fl_length, List.length_drop, lines_length] at hlt
    omega
  · rw [if_neg e] at had
    cases had
    rw [WideShapes.add_plain]
    exact tail_cells h hk j u hj
theorem some_if {n k : Nat} {a b : Addr} (h : (if n = k then some a else some b) = none) (m c : Nat) : m = 0 ∧ c = 0 := by
  split at h <;> cases h

/-- what 'dedent' gives of such a row -/
theorem dedent_with (F : Interp) (P0 : ByteArray) (pz : List Nat) (L : Nat → Ln) (n k g cap : Nat) (bad : ByteArray × Int × Int) (nL : Int) (w : World) {B0 : Nat} (hF : F.answers w.tape) (hn : n ≤ 1024) (hk : k ≤ n) (hP : P0.data.toList = spc pz) (hPs : P0.size ≤ 4096)
    (hsm : ∀ i, i < n → (L i).body.size ≤ 1024) (ho : w.ownsRow B0 35 3 (.slice (some ⟨g, 0, none⟩) (n + 1) cap) (n + 1) (fl (withBad P0.data.toList L n k bad))) (hbad : Bad (spc pz) bad.1 bad.2.1) :
    Calls Ybaf.prog 8 #[.slice (some ⟨g, 0, none⟩) (n + 1) cap, .agg #[.string P0, .int .i64 (-1), .int .i64 nL]] w fun e w' => ∃ b, e = .returned (.tuple #[.string ⟨#[]⟩, .iface 38 (.pointer (some ⟨b, 0, none⟩))]) ∧ w'.cell? ⟨b, 0, none⟩ = some (.int .i64 bad.2.2) ∧ Below w.heap.size w w' := by
  have hat := withBad_at P0.data.toList L n k bad
  refine (dedent_core F g (n + 1) cap _ _ _ P0 pz nL (fun i => wn (L i)) k w hF (by omega) hP hPs (cells_of_row ho (withBad_length _ _ _ _ hk _)) (by omega) (fun i hi => ?_) (fun _ => ?_)).mono ?_
  · have := fine_of P0.data.toList (L i) (hsm i (by omega)) (by rw [← size_list]; exact hPs)
    simp only [withBad_lt P0.data.toList L n k bad i hi, Option.getD_some]
    rw [← hP]
    exact this
  · simp only [hat, Option.getD_some]
    exact hbad
  · rintro e w' ⟨hb, ⟨hMN, _⟩ | ⟨_, b, rfl, kb⟩⟩
    · omega
    · simp only [hat, Option.getD_some] at kb
      exact ⟨b, rfl, kb, hb⟩

theorem mod_nat (p : Int) (n : Nat) (hp : 0 ≤ p) : ∃ k : Nat, p % ((n : Int) + 1) = (k : Int) ∧ k ≤ n := by
  have h1 := Int.emod_nonneg p (show ((n : Int) + 1) ≠ 0 by omega)
  have h2 := Int.emod_lt_of_pos p (show (0 : Int) < (n : Int) + 1 by omega)
  exact ⟨(p % ((n : Int) + 1)).toNat, by omega, by omega⟩

theorem mod_lt (p : Int) (n : Nat) (hp : 0 ≤ p) (hn : 0 < n) : ∃ k : Nat, p % (n : Int) = (k : Int) ∧ k < n := by
  have h1 := Int.emod_nonneg p (show (n : Int) ≠ 0 by omega)
  have h2 := Int.emod_lt_of_pos p (show (0 : Int) < (n : Int) by omega)
  exact ⟨(p % (n : Int)).toNat, by omega, by omega⟩
theorem size_pos {S : ByteArray} (h : S.toList.isEmpty = false) : 0 < S.size := by
  rw [size_list, ← ByteArray.toList_eq]
  cases e : S.toList with
  | nil => rw [e] at h; cases h
  | cons a b => simp

theorem Ybaf.assert38 (b : Nat) (w : World) : (Instr.typeAssert (.iface 38 (.pointer (some ⟨b, 0, none⟩))) 31 38 true).run Ybaf.prog w = .ok (.tuple #[.pointer (some ⟨b, 0, none⟩), .bool true]) w := by kernel_rfl

set_option maxRecDepth 1000000 in
set_option maxHeartbeats 1600000 in
theorem rejects_core (F : Interp) (mode : Int) (a0 : Option Addr) (b0 o0 n0 c0 : Nat) (z : Nat → Int) (a1 : Option Addr) (b1 o1 n1 c1 : Nat) (L : Nat → Ln) (pos e : Int) (body : ByteArray) (bl : Int) (w : World) (hF : F.answers w.tape)
    (h0 : n0 ≤ 1024) (h1 : n1 ≤ 1024) (hbo : body.size ≤ 1024) (v0 : PxView w a0 b0 o0 n0 z) (v1 : LsView w a1 b1 o1 n1 L) (hbd : ∀ i, i < n1 → (L i).body.size ≤ 9223372036854775807)
    (hm0 : 0 ≤ mode) (hm1 : mode ≤ 255) (hp0 : 0 ≤ pos) (hp1 : pos ≤ 255) (he0 : 0 ≤ e) (he1 : e ≤ 255) :
    Calls Ybaf.prog 4 #[.int .u8 mode, .slice a0 n0 c0, .slice a1 n1 c1, .int .u8 pos, .int .u8 e, .string body, .int .i64 bl] w fun e w' => e = .returned (.bool true) ∧ Below w.heap.size w w' := by
  have HF := toHid hF
  have V0 := toHid v0
  have V1 := toHid v1
  have HB := toHid hbd
  clear hF v0 v1 hbd
  obtain ⟨i35, hi35, hz35, hs35, hb35⟩ := info_parts Ybaf.info35
  have hx1 : ((⟨#[120]⟩ : ByteArray)).size = 1 := rfl
  have hta := Ybaf.assert38
  go_enter Ybaf.func4, Ybaf.ntmps4
  go_wp2_with fail
  refine (big_any a1 b1 o1 n1 c1 L w h1 V1.out HB.out).mono ?_
  rintro e' w1 ⟨r, rfl, hsm, hb1⟩
  have hb1' := toHid hb1
  clear hb1
  cases r with
  | true =>
    go_wp2_with fail
    go_ret
    exact ⟨rfl, hb1'.out⟩
  | false =>
    have hsm' := toHid (hsm rfl)
    clear hsm
    go_wp2_with fail
    have u0 := V0.out.later hb1'.out
    refine (prefix_any a0 b0 o0 n0 c0 z w1 h0 u0.addr u0.bd u0.cell).mono ?_
    clear u0
    rintro e' w2 ⟨S, rfl, hS, hb2⟩
    have hSs : S.size ≤ 4096 := by
      rw [size_list, hS]
      have := spc_length (codes z n0)
      rw [codes_length] at this
      omega
    have hb2' := toHid (hb1'.out.trans (hb2.mono hb1'.out.size))
    have hS' : Hid (∃ pz, S.data.toList = spc pz) := ⟨_, hS⟩
    clear hS hb2 hb1'
    obtain ⟨mm, hmm⟩ : ∃ mm : Int, mode % 3 = mm := ⟨_, rfl⟩
    have hmm3 : mm = 0 ∨ mm = 1 ∨ mm = 2 := by omega
    go_upto_region 5 with fail
    rw [hmm]
    have HMM := toHid hmm
    clear hmm
    rcases hmm3 with rfl | rfl | rfl
    · obtain ⟨pz, hpz⟩ := hS'.out
      have HP := toHid hpz
      clear hpz
      by_cases hpar : e % 2 = 0
      · have HT := toHid (show (S ++ (⟨#[120]⟩ : ByteArray) ++ body).data.toList = spc pz ++ 120 :: body.data.toList by rw [app_list, app_list, HP.out]; simp)
        have hTs : (S ++ (⟨#[120]⟩ : ByteArray) ++ body).size ≤ 1000000 := by rw [app_size, app_size]; omega
        cases hE : S.toList.isEmpty
        all_goals
          go_wp2_with (first
            | (go_at_call 7; refine (build_any a1 b1 o1 n1 c1 L S w2 h1 (V1.out.later hb2'.out) hsm'.out hSs).mono ?_; rintro e' w3 ⟨g1, g2, rfl, hI⟩; have hI' := toHid hI; clear hI)
            | (go_at_call 8; refine (dedent_last F _ (S ++ (⟨#[120]⟩ : ByteArray) ++ body) (-1) bl _ (by exact (show F.answers w3.tape by rw [hI'.out.below.tape, hb2'.out.tape]; exact HF.out)) (fun W => blank_x _ pz _ (-1) bl W HT.out hTs (by omega))).mono ?_; rintro e' w4 ⟨b, rfl, kb, hb4⟩))
          all_goals go_ret
          all_goals exact ⟨rfl, hb2'.out.trans ((hI'.out.below.mono hb2'.out.size).trans (((Below.refl _ _).alloc (Nat.le_trans hb2'.out.size hI'.out.below.size) _).trans (hb4.mono (by have := hb2'.out.size; have := hI'.out.below.size; simp; omega))))⟩
      · obtain ⟨r, hr, hrl⟩ := mod_nat e S.size he0
        have hpar2 : (e % 2 == 0) = false := by simp; omega
        cases hE : S.toList.isEmpty
        all_goals
          go_wp2_with (first
            | (go_at_call 7; refine (build_any a1 b1 o1 n1 c1 L S w2 h1 (V1.out.later hb2'.out) hsm'.out hSs).mono ?_; rintro e' w3 ⟨g1, g2, rfl, hI⟩; have hI' := toHid hI; clear hI)
            | (go_at_call 8; refine (dedent_last F _ S (r : Int) bl _ (by exact (show F.answers w3.tape by rw [hI'.out.below.tape, hb2'.out.tape]; exact HF.out)) (fun W => blank_esc _ (r : Int) bl W (by omega))).mono ?_; rintro e' w4 ⟨b, rfl, kb, hb4⟩))
          all_goals go_ret
          all_goals exact ⟨rfl, hb2'.out.trans ((hI'.out.below.mono hb2'.out.size).trans (((Below.refl _ _).alloc (Nat.le_trans hb2'.out.size hI'.out.below.size) _).trans (hb4.mono (by have := hb2'.out.size; have := hI'.out.below.size; simp; omega))))⟩
    · cases hE : S.toList.isEmpty with
      | true =>
        go_upto_region 7 with fail
        obtain ⟨S2, hS2⟩ : ∃ S2 : ByteArray, S2 = ⟨#[32]⟩ := ⟨_, rfl⟩
        rw [← hS2]
        obtain ⟨pz, hpz⟩ : ∃ pz, S2.data.toList = spc pz := ⟨[0], by rw [hS2]; rfl⟩
        have hSs2 : S2.size ≤ 4096 := by rw [hS2]; decide
        have hS0 : 0 < S2.size := by rw [hS2]; decide
        clear hS2 hE
        have HP := toHid hpz
        have hlz : S2.size = (spc pz).length := by rw [size_list, hpz]
        have hne : Hid (spc pz ≠ []) := fun h => by rw [h, List.length_nil] at hlz; omega
        have HBad := toHid (show Bad (spc pz) ((⟨#[120]⟩ : ByteArray) ++ body) (-1) from ⟨by rw [app_size]; omega, .inl ⟨by omega, body.data.toList, by rw [app_list]; rfl, hne.out⟩⟩)
        clear hpz hlz
        obtain ⟨k, hk, hkn⟩ := mod_nat pos n1 hp0
        have hlen : k + 1 + (n1 - k) = n1 + 1 := by omega
        go_upto_region 18 with (go_at_call 7; refine (build_any a1 b1 o1 n1 c1 L S2 w2 h1 (V1.out.later hb2'.out) hsm'.out hSs2).mono ?_; rintro e' w3 ⟨g1, g2, rfl, hI⟩; have hI' := toHid hI; clear hI)
        have hI5 := toHid (hI'.out.later (((Below.refl _ _).alloc (Nat.le_refl _) (.cells #[.string S2, .int .i64 (-1), .int .i64 0] 35)).alloc (by simp) (.cells #[.string ((⟨#[120]⟩ : ByteArray) ++ body), .int .i64 (-1), .int .i64 bl] 35)))
        have q0 : ((w3.alloc (.cells #[.string S2, .int .i64 (-1), .int .i64 0] 35)).alloc (.cells #[.string ((⟨#[120]⟩ : ByteArray) ++ body), .int .i64 (-1), .int .i64 bl] 35)).cell? ⟨w3.heap.size, 0, none⟩ = some (.string S2) := by simp
        have q1 : ((w3.alloc (.cells #[.string S2, .int .i64 (-1), .int .i64 0] 35)).alloc (.cells #[.string ((⟨#[120]⟩ : ByteArray) ++ body), .int .i64 (-1), .int .i64 bl] 35)).cell? ⟨w3.heap.size, 1, none⟩ = some (.int .i64 (-1)) := by simp
        have q2 : ((w3.alloc (.cells #[.string S2, .int .i64 (-1), .int .i64 0] 35)).alloc (.cells #[.string ((⟨#[120]⟩ : ByteArray) ++ body), .int .i64 (-1), .int .i64 bl] 35)).cell? ⟨w3.heap.size, 2, none⟩ = some (.int .i64 0) := by simp
        have r0 : ((w3.alloc (.cells #[.string S2, .int .i64 (-1), .int .i64 0] 35)).alloc (.cells #[.string ((⟨#[120]⟩ : ByteArray) ++ body), .int .i64 (-1), .int .i64 bl] 35)).cell? ⟨w3.heap.size + 1, 0, none⟩ = some (.string ((⟨#[120]⟩ : ByteArray) ++ body)) := by simp
        have r1 : ((w3.alloc (.cells #[.string S2, .int .i64 (-1), .int .i64 0] 35)).alloc (.cells #[.string ((⟨#[120]⟩ : ByteArray) ++ body), .int .i64 (-1), .int .i64 bl] 35)).cell? ⟨w3.heap.size + 1, 1, none⟩ = some (.int .i64 (-1)) := by simp
        have r2 : ((w3.alloc (.cells #[.string S2, .int .i64 (-1), .int .i64 0] 35)).alloc (.cells #[.string ((⟨#[120]⟩ : ByteArray) ++ body), .int .i64 (-1), .int .i64 bl] 35)).cell? ⟨w3.heap.size + 1, 2, none⟩ = some (.int .i64 bl) := by simp
        generalize (w3.alloc (.cells #[.string S2, .int .i64 (-1), .int .i64 0] 35)).alloc (.cells #[.string ((⟨#[120]⟩ : ByteArray) ++ body), .int .i64 (-1), .int .i64 bl] 35) = W5 at *
        generalize w3.heap.size = hs at *
        clear hI'
        go_wp2_with (first
          | (at_make; refine wpList_make_own _ rfl (.const (.int .i64 0)) (.tmp 108) 26 rfl W5.heap.size 35 i35 (.agg #[.string ByteArray.empty, .int .i64 0, .int .i64 0]) 3 Ybaf.underlying26 hi35 hz35 hs35 .i64 .i64 ((n1 : Int) + 1) (n1 + 1) rfl rfl (by omega) (by rw [hb35]; omega) (by unfold maxLen; omega) (Nat.le_refl _) ?_; intro w6 o6 g6; have hb6 : Below W5.heap.size W5 w6 := Below.grown (Below.refl _ _) g6 (Nat.le_refl _) (fun j hj => by cases hj); have O6 := toHid o6; have HB6 := toHid hb6; clear o6 g6 hb6)
          | (at_builtin; refine wpList_append_fits _ rfl (.tmp 110) (.tmp 113) 26 rfl W5.heap.size 35 i35 3 Ybaf.underlying26 hi35 hs35 W5.heap.size 0 (n1 + 1) [] rfl O6.out ⟨g1, 0, none⟩ k _ (fl (lines S2.data.toList L k)) rfl (by rw [fl_length, lines_length]) (head_cells (hI5.out.later HB6.out) hkn) (fl_one _) (by omega) ?_; intro w7 o7 g7; simp only [Nat.zero_add, List.nil_append] at o7 ⊢; have hb7 : Below W5.heap.size W5 w7 := Below.grown HB6.out g7 HB6.out.size (fun j hj => by cases hj; exact Nat.le_refl _); have O7 := toHid o7; have HB7 := toHid hb7; have s0 := cell_keep hb7 r0; have s1 := cell_keep hb7 r1; have s2 := cell_keep hb7 r2; clear o7 g7 hb7)
          | (at_builtin; refine wpList_append_fits _ rfl (.tmp 115) (.tmp 117) 26 rfl W5.heap.size 35 i35 3 Ybaf.underlying26 hi35 hs35 W5.heap.size k (n1 + 1) (fl (lines S2.data.toList L k)) rfl (O7.out.alloc _) ⟨w7.heap.size, 0, none⟩ 1 1 [.string ((⟨#[120]⟩ : ByteArray) ++ body), .int .i64 (-1), .int .i64 bl] rfl rfl (cell_three_new _ _ _ _ _) (three_one _ _ _) (by omega) ?_; intro w8 o8 g8; have hb8 : Below W5.heap.size W5 w8 := Below.grown (HB7.out.alloc HB7.out.size _) g8 (by have := HB7.out.size; simp; omega) (fun j hj => by cases hj; exact Nat.le_refl _); have O8 := toHid o8; have HB8 := toHid hb8; clear o8 g8 hb8 s0 s1 s2)
          | (at_builtin; refine wpList_append_fits_any _ rfl (.tmp 119) (.tmp 122) 26 rfl W5.heap.size 35 i35 3 Ybaf.underlying26 hi35 hs35 W5.heap.size (k + 1) (n1 + 1) _ rfl O8.out _ (n1 - k) _ (fl ((lines S2.data.toList L n1).drop k)) rfl (by rw [fl_length, List.length_drop, lines_length]) (fun h => some_if h _ _) (fun ad had => tail_any (hI5.out.later HB8.out) hkn had) (fl_one _) (by omega) ?_; intro w9 o9 g9; rw [hlen] at o9 ⊢; have hb9 : Below W5.heap.size W5 w9 := Below.grown HB8.out g9 HB8.out.size (fun j hj => by cases hj; exact Nat.le_refl _); have O9 : Hid (w9.ownsRow W5.heap.size 35 3 (.slice (some ⟨W5.heap.size, 0, none⟩) (n1 + 1) (n1 + 1)) (n1 + 1) (fl (withBad S2.data.toList L n1 k ((⟨#[120]⟩ : ByteArray) ++ body, -1, bl)))) := (by show World.ownsRow _ _ _ _ _ _ _; rw [withBad, fl_append, fl_append]; simpa [fl] using o9); have HB9 := toHid hb9; have t0 := cell_keep hb9 q0; have t1 := cell_keep hb9 q1; have t2 := cell_keep hb9 q2; clear o9 g9 hb9 q0 q1 q2 r0 r1 r2)
          | (go_at_call 8; refine (dedent_with F S2 pz L n1 k W5.heap.size (n1 + 1) ((⟨#[120]⟩ : ByteArray) ++ body, -1, bl) 0 w9 (by rw [HB9.out.tape, hI5.out.below.tape, hb2'.out.tape]; exact HF.out) h1 hkn HP.out hSs2 hsm'.out O9.out HBad.out).mono ?_; rintro e' w10 ⟨b, rfl, kb, hb10⟩))
        all_goals go_ret
        all_goals exact ⟨rfl, hb2'.out.trans ((hI5.out.below.mono hb2'.out.size).trans ((HB9.out.mono (Nat.le_trans hb2'.out.size hI5.out.below.size)).trans (hb10.mono (Nat.le_trans hb2'.out.size (Nat.le_trans hI5.out.below.size HB9.out.size)))))⟩
      | false =>
        go_upto_region 7 with fail
        obtain ⟨S2, hS2⟩ : ∃ S2 : ByteArray, S2 = S := ⟨_, rfl⟩
        rw [← hS2]
        obtain ⟨pz, hpz⟩ : ∃ pz, S2.data.toList = spc pz := by rw [hS2]; exact hS'.out
        have hSs2 : S2.size ≤ 4096 := by rw [hS2]; exact hSs
        have hS0 : 0 < S2.size := by rw [hS2]; exact size_pos hE
        clear hS2 hE
        have HP := toHid hpz
        have hlz : S2.size = (spc pz).length := by rw [size_list, hpz]
        have hne : Hid (spc pz ≠ []) := fun h => by rw [h, List.length_nil] at hlz; omega
        have HBad := toHid (show Bad (spc pz) ((⟨#[120]⟩ : ByteArray) ++ body) (-1) from ⟨by rw [app_size]; omega, .inl ⟨by omega, body.data.toList, by rw [app_list]; rfl, hne.out⟩⟩)
        clear hpz hlz
        obtain ⟨k, hk, hkn⟩ := mod_nat pos n1 hp0
        have hlen : k + 1 + (n1 - k) = n1 + 1 := by omega
        go_upto_region 18 with (go_at_call 7; refine (build_any a1 b1 o1 n1 c1 L S2 w2 h1 (V1.out.later hb2'.out) hsm'.out hSs2).mono ?_; rintro e' w3 ⟨g1, g2, rfl, hI⟩; have hI' := toHid hI; clear hI)
        have hI5 := toHid (hI'.out.later (((Below.refl _ _).alloc (Nat.le_refl _) (.cells #[.string S2, .int .i64 (-1), .int .i64 0] 35)).alloc (by simp) (.cells #[.string ((⟨#[120]⟩ : ByteArray) ++ body), .int .i64 (-1), .int .i64 bl] 35)))
        have q0 : ((w3.alloc (.cells #[.string S2, .int .i64 (-1), .int .i64 0] 35)).alloc (.cells #[.string ((⟨#[120]⟩ : ByteArray) ++ body), .int .i64 (-1), .int .i64 bl] 35)).cell? ⟨w3.heap.size, 0, none⟩ = some (.string S2) := by simp
        have q1 : ((w3.alloc (.cells #[.string S2, .int .i64 (-1), .int .i64 0] 35)).alloc (.cells #[.string ((⟨#[120]⟩ : ByteArray) ++ body), .int .i64 (-1), .int .i64 bl] 35)).cell? ⟨w3.heap.size, 1, none⟩ = some (.int .i64 (-1)) := by simp
        have q2 : ((w3.alloc (.cells #[.string S2, .int .i64 (-1), .int .i64 0] 35)).alloc (.cells #[.string ((⟨#[120]⟩ : ByteArray) ++ body), .int .i64 (-1), .int .i64 bl] 35)).cell? ⟨w3.heap.size, 2, none⟩ = some (.int .i64 0) := by simp
        have r0 : ((w3.alloc (.cells #[.string S2, .int .i64 (-1), .int .i64 0] 35)).alloc (.cells #[.string ((⟨#[120]⟩ : ByteArray) ++ body), .int .i64 (-1), .int .i64 bl] 35)).cell? ⟨w3.heap.size + 1, 0, none⟩ = some (.string ((⟨#[120]⟩ : ByteArray) ++ body)) := by simp
        have r1 : ((w3.alloc (.cells #[.string S2, .int .i64 (-1), .int .i64 0] 35)).alloc (.cells #[.string ((⟨#[120]⟩ : ByteArray) ++ body), .int .i64 (-1), .int .i64 bl] 35)).cell? ⟨w3.heap.size + 1, 1, none⟩ = some (.int .i64 (-1)) := by simp
        have r2 : ((w3.alloc (.cells #[.string S2, .int .i64 (-1), .int .i64 0] 35)).alloc (.cells #[.string ((⟨#[120]⟩ : ByteArray) ++ body), .int .i64 (-1), .int .i64 bl] 35)).cell? ⟨w3.heap.size + 1, 2, none⟩ = some (.int .i64 bl) := by simp
        generalize (w3.alloc (.cells #[.string S2, .int .i64 (-1), .int .i64 0] 35)).alloc (.cells #[.string ((⟨#[120]⟩ : ByteArray) ++ body), .int .i64 (-1), .int .i64 bl] 35) = W5 at *
        generalize w3.heap.size = hs at *
        clear hI'
        go_wp2_with (first
          | (at_make; refine wpList_make_own _ rfl (.const (.int .i64 0)) (.tmp 108) 26 rfl W5.heap.size 35 i35 (.agg #[.string ByteArray.empty, .int .i64 0, .int .i64 0]) 3 Ybaf.underlying26 hi35 hz35 hs35 .i64 .i64 ((n1 : Int) + 1) (n1 + 1) rfl rfl (by omega) (by rw [hb35]; omega) (by unfold maxLen; omega) (Nat.le_refl _) ?_; intro w6 o6 g6; have hb6 : Below W5.heap.size W5 w6 := Below.grown (Below.refl _ _) g6 (Nat.le_refl _) (fun j hj => by cases hj); have O6 := toHid o6; have HB6 := toHid hb6; clear o6 g6 hb6)
          | (at_builtin; refine wpList_append_fits _ rfl (.tmp 110) (.tmp 113) 26 rfl W5.heap.size 35 i35 3 Ybaf.underlying26 hi35 hs35 W5.heap.size 0 (n1 + 1) [] rfl O6.out ⟨g1, 0, none⟩ k _ (fl (lines S2.data.toList L k)) rfl (by rw [fl_length, lines_length]) (head_cells (hI5.out.later HB6.out) hkn) (fl_one _) (by omega) ?_; intro w7 o7 g7; simp only [Nat.zero_add, List.nil_append] at o7 ⊢; have hb7 : Below W5.heap.size W5 w7 := Below.grown HB6.out g7 HB6.out.size (fun j hj => by cases hj; exact Nat.le_refl _); have O7 := toHid o7; have HB7 := toHid hb7; have s0 := cell_keep hb7 r0; have s1 := cell_keep hb7 r1; have s2 := cell_keep hb7 r2; clear o7 g7 hb7)
          | (at_builtin; refine wpList_append_fits _ rfl (.tmp 115) (.tmp 117) 26 rfl W5.heap.size 35 i35 3 Ybaf.underlying26 hi35 hs35 W5.heap.size k (n1 + 1) (fl (lines S2.data.toList L k)) rfl (O7.out.alloc _) ⟨w7.heap.size, 0, none⟩ 1 1 [.string ((⟨#[120]⟩ : ByteArray) ++ body), .int .i64 (-1), .int .i64 bl] rfl rfl (cell_three_new _ _ _ _ _) (three_one _ _ _) (by omega) ?_; intro w8 o8 g8; have hb8 : Below W5.heap.size W5 w8 := Below.grown (HB7.out.alloc HB7.out.size _) g8 (by have := HB7.out.size; simp; omega) (fun j hj => by cases hj; exact Nat.le_refl _); have O8 := toHid o8; have HB8 := toHid hb8; clear o8 g8 hb8 s0 s1 s2)
          | (at_builtin; refine wpList_append_fits_any _ rfl (.tmp 119) (.tmp 122) 26 rfl W5.heap.size 35 i35 3 Ybaf.underlying26 hi35 hs35 W5.heap.size (k + 1) (n1 + 1) _ rfl O8.out _ (n1 - k) _ (fl ((lines S2.data.toList L n1).drop k)) rfl (by rw [fl_length, List.length_drop, lines_length]) (fun h => some_if h _ _) (fun ad had => tail_any (hI5.out.later HB8.out) hkn had) (fl_one _) (by omega) ?_; intro w9 o9 g9; rw [hlen] at o9 ⊢; have hb9 : Below W5.heap.size W5 w9 := Below.grown HB8.out g9 HB8.out.size (fun j hj => by cases hj; exact Nat.le_refl _); have O9 : Hid (w9.ownsRow W5.heap.size 35 3 (.slice (some ⟨W5.heap.size, 0, none⟩) (n1 + 1) (n1 + 1)) (n1 + 1) (fl (withBad S2.data.toList L n1 k ((⟨#[120]⟩ : ByteArray) ++ body, -1, bl)))) := (by show World.ownsRow _ _ _ _ _ _ _; rw [withBad, fl_append, fl_append]; simpa [fl] using o9); have HB9 := toHid hb9; have t0 := cell_keep hb9 q0; have t1 := cell_keep hb9 q1; have t2 := cell_keep hb9 q2; clear o9 g9 hb9 q0 q1 q2 r0 r1 r2)
          | (go_at_call 8; refine (dedent_with F S2 pz L n1 k W5.heap.size (n1 + 1) ((⟨#[120]⟩ : ByteArray) ++ body, -1, bl) 0 w9 (by rw [HB9.out.tape, hI5.out.below.tape, hb2'.out.tape]; exact HF.out) h1 hkn HP.out hSs2 hsm'.out O9.out HBad.out).mono ?_; rintro e' w10 ⟨b, rfl, kb, hb10⟩))
        all_goals go_ret
        all_goals exact ⟨rfl, hb2'.out.trans ((hI5.out.below.mono hb2'.out.size).trans ((HB9.out.mono (Nat.le_trans hb2'.out.size hI5.out.below.size)).trans (hb10.mono (Nat.le_trans hb2'.out.size (Nat.le_trans hI5.out.below.size HB9.out.size)))))⟩
    · cases hE : S.toList.isEmpty with
      | true =>
        go_upto_region 7 with fail
        obtain ⟨S2, hS2⟩ : ∃ S2 : ByteArray, S2 = ⟨#[32]⟩ := ⟨_, rfl⟩
        rw [← hS2]
        obtain ⟨pz, hpz⟩ : ∃ pz, S2.data.toList = spc pz := ⟨[0], by rw [hS2]; rfl⟩
        have hSs2 : S2.size ≤ 4096 := by rw [hS2]; decide
        have hS0 : 0 < S2.size := by rw [hS2]; decide
        clear hS2 hE
        have HP := toHid hpz
        have hlz : S2.size = (spc pz).length := by rw [size_list, hpz]
        have hne : Hid (spc pz ≠ []) := fun h => by rw [h, List.length_nil] at hlz; omega
        obtain ⟨r, hr, hrl⟩ := mod_lt e S2.size he0 hS0
        have HBad := toHid (show Bad (spc pz) (S2 ++ (⟨#[120]⟩ : ByteArray) ++ body) (r : Int) from ⟨by rw [app_size, app_size]; omega, .inr ⟨body.data.toList, by rw [app_list, app_list, hpz]; simp, by omega, by omega⟩⟩)
        clear hpz hlz
        obtain ⟨k, hk, hkn⟩ := mod_nat pos n1 hp0
        have hlen : k + 1 + (n1 - k) = n1 + 1 := by omega
        go_upto_region 18 with (go_at_call 7; refine (build_any a1 b1 o1 n1 c1 L S2 w2 h1 (V1.out.later hb2'.out) hsm'.out hSs2).mono ?_; rintro e' w3 ⟨g1, g2, rfl, hI⟩; have hI' := toHid hI; clear hI)
        have hI5 := toHid (hI'.out.later (((Below.refl _ _).alloc (Nat.le_refl _) (.cells #[.string S2, .int .i64 (-1), .int .i64 0] 35)).alloc (by simp) (.cells #[.string (S2 ++ (⟨#[120]⟩ : ByteArray) ++ body), .int .i64 ((r : Int)), .int .i64 bl] 35)))
        have q0 : ((w3.alloc (.cells #[.string S2, .int .i64 (-1), .int .i64 0] 35)).alloc (.cells #[.string (S2 ++ (⟨#[120]⟩ : ByteArray) ++ body), .int .i64 ((r : Int)), .int .i64 bl] 35)).cell? ⟨w3.heap.size, 0, none⟩ = some (.string S2) := by simp
        have q1 : ((w3.alloc (.cells #[.string S2, .int .i64 (-1), .int .i64 0] 35)).alloc (.cells #[.string (S2 ++ (⟨#[120]⟩ : ByteArray) ++ body), .int .i64 ((r : Int)), .int .i64 bl] 35)).cell? ⟨w3.heap.size, 1, none⟩ = some (.int .i64 (-1)) := by simp
        have q2 : ((w3.alloc (.cells #[.string S2, .int .i64 (-1), .int .i64 0] 35)).alloc (.cells #[.string (S2 ++ (⟨#[120]⟩ : ByteArray) ++ body), .int .i64 ((r : Int)), .int .i64 bl] 35)).cell? ⟨w3.heap.size, 2, none⟩ = some (.int .i64 0) := by simp
        have r0 : ((w3.alloc (.cells #[.string S2, .int .i64 (-1), .int .i64 0] 35)).alloc (.cells #[.string (S2 ++ (⟨#[120]⟩ : ByteArray) ++ body), .int .i64 ((r : Int)), .int .i64 bl] 35)).cell? ⟨w3.heap.size + 1, 0, none⟩ = some (.string (S2 ++ (⟨#[120]⟩ : ByteArray) ++ body)) := by simp
        have r1 : ((w3.alloc (.cells #[.string S2, .int .i64 (-1), .int .i64 0] 35)).alloc (.cells #[.string (S2 ++ (⟨#[120]⟩ : ByteArray) ++ body), .int .i64 ((r : Int)), .int .i64 bl] 35)).cell? ⟨w3.heap.size + 1, 1, none⟩ = some (.int .i64 ((r : Int))) := by simp
        have r2 : ((w3.alloc (.cells #[.string S2, .int .i64 (-1), .int .i64 0] 35)).alloc (.cells #[.string (S2 ++ (⟨#[120]⟩ : ByteArray) ++ body), .int .i64 ((r : Int)), .int .i64 bl] 35)).cell? ⟨w3.heap.size + 1, 2, none⟩ = some (.int .i64 bl) := by simp
        generalize (w3.alloc (.cells #[.string S2, .int .i64 (-1), .int .i64 0] 35)).alloc (.cells #[.string (S2 ++ (⟨#[120]⟩ : ByteArray) ++ body), .int .i64 ((r : Int)), .int .i64 bl] 35) = W5 at *
        generalize w3.heap.size = hs at *
        clear hI'
        go_wp2_with (first
          | (at_make; refine wpList_make_own _ rfl (.const (.int .i64 0)) (.tmp 108) 26 rfl W5.heap.size 35 i35 (.agg #[.string ByteArray.empty, .int .i64 0, .int .i64 0]) 3 Ybaf.underlying26 hi35 hz35 hs35 .i64 .i64 ((n1 : Int) + 1) (n1 + 1) rfl rfl (by omega) (by rw [hb35]; omega) (by unfold maxLen; omega) (Nat.le_refl _) ?_; intro w6 o6 g6; have hb6 : Below W5.heap.size W5 w6 := Below.grown (Below.refl _ _) g6 (Nat.le_refl _) (fun j hj => by cases hj); have O6 := toHid o6; have HB6 := toHid hb6; clear o6 g6 hb6)
          | (at_builtin; refine wpList_append_fits _ rfl (.tmp 110) (.tmp 113) 26 rfl W5.heap.size 35 i35 3 Ybaf.underlying26 hi35 hs35 W5.heap.size 0 (n1 + 1) [] rfl O6.out ⟨g1, 0, none⟩ k _ (fl (lines S2.data.toList L k)) rfl (by rw [fl_length, lines_length]) (head_cells (hI5.out.later HB6.out) hkn) (fl_one _) (by omega) ?_; intro w7 o7 g7; simp only [Nat.zero_add, List.nil_append] at o7 ⊢; have hb7 : Below W5.heap.size W5 w7 := Below.grown HB6.out g7 HB6.out.size (fun j hj => by cases hj; exact Nat.le_refl _); have O7 := toHid o7; have HB7 := toHid hb7; have s0 := cell_keep hb7 r0; have s1 := cell_keep hb7 r1; have s2 := cell_keep hb7 r2; clear o7 g7 hb7)
          | (at_builtin; refine wpList_append_fits _ rfl (.tmp 115) (.tmp 117) 26 rfl W5.heap.size 35 i35 3 Ybaf.underlying26 hi35 hs35 W5.heap.size k (n1 + 1) (fl (lines S2.data.toList L k)) rfl (O7.out.alloc _) ⟨w7.heap.size, 0, none⟩ 1 1 [.string (S2 ++ (⟨#[120]⟩ : ByteArray) ++ body), .int .i64 ((r : Int)), .int .i64 bl] rfl rfl (cell_three_new _ _ _ _ _) (three_one _ _ _) (by omega) ?_; intro w8 o8 g8; have hb8 : Below W5.heap.size W5 w8 := Below.grown (HB7.out.alloc HB7.out.size _) g8 (by have := HB7.out.size; simp; omega) (fun j hj => by cases hj; exact Nat.le_refl _); have O8 := toHid o8; have HB8 := toHid hb8; clear o8 g8 hb8 s0 s1 s2)
          | (at_builtin; refine wpList_append_fits_any _ rfl (.tmp 119) (.tmp 122) 26 rfl W5.heap.size 35 i35 3 Ybaf.underlying26 hi35 hs35 W5.heap.size (k + 1) (n1 + 1) _ rfl O8.out _ (n1 - k) _ (fl ((lines S2.data.toList L n1).drop k)) rfl (by rw [fl_length, List.length_drop, lines_length]) (fun h => some_if h _ _) (fun ad had => tail_any (hI5.out.later HB8.out) hkn had) (fl_one _) (by omega) ?_; intro w9 o9 g9; rw [hlen] at o9 ⊢; have hb9 : Below W5.heap.size W5 w9 := Below.grown HB8.out g9 HB8.out.size (fun j hj => by cases hj; exact Nat.le_refl _); have O9 : Hid (w9.ownsRow W5.heap.size 35 3 (.slice (some ⟨W5.heap.size, 0, none⟩) (n1 + 1) (n1 + 1)) (n1 + 1) (fl (withBad S2.data.toList L n1 k (S2 ++ (⟨#[120]⟩ : ByteArray) ++ body, (r : Int), bl)))) := (by show World.ownsRow _ _ _ _ _ _ _; rw [withBad, fl_append, fl_append]; simpa [fl] using o9); have HB9 := toHid hb9; have t0 := cell_keep hb9 q0; have t1 := cell_keep hb9 q1; have t2 := cell_keep hb9 q2; clear o9 g9 hb9 q0 q1 q2 r0 r1 r2)
          | (go_at_call 8; refine (dedent_with F S2 pz L n1 k W5.heap.size (n1 + 1) (S2 ++ (⟨#[120]⟩ : ByteArray) ++ body, (r : Int), bl) 0 w9 (by rw [HB9.out.tape, hI5.out.below.tape, hb2'.out.tape]; exact HF.out) h1 hkn HP.out hSs2 hsm'.out O9.out HBad.out).mono ?_; rintro e' w10 ⟨b, rfl, kb, hb10⟩))
        all_goals go_ret
        all_goals exact ⟨rfl, hb2'.out.trans ((hI5.out.below.mono hb2'.out.size).trans ((HB9.out.mono (Nat.le_trans hb2'.out.size hI5.out.below.size)).trans (hb10.mono (Nat.le_trans hb2'.out.size (Nat.le_trans hI5.out.below.size HB9.out.size)))))⟩
      | false =>
        go_upto_region 7 with fail
        obtain ⟨S2, hS2⟩ : ∃ S2 : ByteArray, S2 = S := ⟨_, rfl⟩
        rw [← hS2]
        obtain ⟨pz, hpz⟩ : ∃ pz, S2.data.toList = spc pz := by rw [hS2]; exact hS'.out
        have hSs2 : S2.size ≤ 4096 := by rw [hS2]; exact hSs
        have hS0 : 0 < S2.size := by rw [hS2]; exact size_pos hE
        clear hS2 hE
        have HP := toHid hpz
        have hlz : S2.size = (spc pz).length := by rw [size_list, hpz]
        have hne : Hid (spc pz ≠ []) := fun h => by rw [h, List.length_nil] at hlz; omega
        obtain ⟨r, hr, hrl⟩ := mod_lt e S2.size he0 hS0
        have HBad := toHid (show Bad (spc pz) (S2 ++ (⟨#[120]⟩ : ByteArray) ++ body) (r : Int) from ⟨by rw [app_size, app_size]; omega, .inr ⟨body.data.toList, by rw [app_list, app_list, hpz]; simp, by omega, by omega⟩⟩)
        clear hpz hlz
        obtain ⟨k, hk, hkn⟩ := mod_nat pos n1 hp0
        have hlen : k + 1 + (n1 - k) = n1 + 1 := by omega
        go_upto_region 18 with (go_at_call 7; refine (build_any a1 b1 o1 n1 c1 L S2 w2 h1 (V1.out.later hb2'.out) hsm'.out hSs2).mono ?_; rintro e' w3 ⟨g1, g2, rfl, hI⟩; have hI' := toHid hI; clear hI)
        have hI5 := toHid (hI'.out.later (((Below.refl _ _).alloc (Nat.le_refl _) (.cells #[.string S2, .int .i64 (-1), .int .i64 0] 35)).alloc (by simp) (.cells #[.string (S2 ++ (⟨#[120]⟩ : ByteArray) ++ body), .int .i64 ((r : Int)), .int .i64 bl] 35)))
        have q0 : ((w3.alloc (.cells #[.string S2, .int .i64 (-1), .int .i64 0] 35)).alloc (.cells #[.string (S2 ++ (⟨#[120]⟩ : ByteArray) ++ body), .int .i64 ((r : Int)), .int .i64 bl] 35)).cell? ⟨w3.heap.size, 0, none⟩ = some (.string S2) := by simp
        have q1 : ((w3.alloc (.cells #[.string S2, .int .i64 (-1), .int .i64 0] 35)).alloc (.cells #[.string (S2 ++ (⟨#[120]⟩ : ByteArray) ++ body), .int .i64 ((r : Int)), .int .i64 bl] 35)).cell? ⟨w3.heap.size, 1, none⟩ = some (.int .i64 (-1)) := by simp
        have q2 : ((w3.alloc (.cells #[.string S2, .int .i64 (-1), .int .i64 0] 35)).alloc (.cells #[.string (S2 ++ (⟨#[120]⟩ : ByteArray) ++ body), .int .i64 ((r : Int)), .int .i64 bl] 35)).cell? ⟨w3.heap.size, 2, none⟩ = some (.int .i64 0) := by simp
        have r0 : ((w3.alloc (.cells #[.string S2, .int .i64 (-1), .int .i64 0] 35)).alloc (.cells #[.string (S2 ++ (⟨#[120]⟩ : ByteArray) ++ body), .int .i64 ((r : Int)), .int .i64 bl] 35)).cell? ⟨w3.heap.size + 1, 0, none⟩ = some (.string (S2 ++ (⟨#[120]⟩ : ByteArray) ++ body)) := by simp
        have r1 : ((w3.alloc (.cells #[.string S2, .int .i64 (-1), .int .i64 0] 35)).alloc (.cells #[.string (S2 ++ (⟨#[120]⟩ : ByteArray) ++ body), .int .i64 ((r : Int)), .int .i64 bl] 35)).cell? ⟨w3.heap.size + 1, 1, none⟩ = some (.int .i64 ((r : Int))) := by simp
        have r2 : ((w3.alloc (.cells #[.string S2, .int .i64 (-1), .int .i64 0] 35)).alloc (.cells #[.string (S2 ++ (⟨#[120]⟩ : ByteArray) ++ body), .int .i64 ((r : Int)), .int .i64 bl] 35)).cell? ⟨w3.heap.size + 1, 2, none⟩ = some (.int .i64 bl) := by simp
        generalize (w3.alloc (.cells #[.string S2, .int .i64 (-1), .int .i64 0] 35)).alloc (.cells #[.string (S2 ++ (⟨#[120]⟩ : ByteArray) ++ body), .int .i64 ((r : Int)), .int .i64 bl] 35) = W5 at *
        generalize w3.heap.size = hs at *
        clear hI'
        go_wp2_with (first
          | (at_make; refine wpList_make_own _ rfl (.const (.int .i64 0)) (.tmp 108) 26 rfl W5.heap.size 35 i35 (.agg #[.string ByteArray.empty, .int .i64 0, .int .i64 0]) 3 Ybaf.underlying26 hi35 hz35 hs35 .i64 .i64 ((n1 : Int) + 1) (n1 + 1) rfl rfl (by omega) (by rw [hb35]; omega) (by unfold maxLen; omega) (Nat.le_refl _) ?_; intro w6 o6 g6; have hb6 : Below W5.heap.size W5 w6 := Below.grown (Below.refl _ _) g6 (Nat.le_refl _) (fun j hj => by cases hj); have O6 := toHid o6; have HB6 := toHid hb6; clear o6 g6 hb6)
          | (at_builtin; refine wpList_append_fits _ rfl (.tmp 110) (.tmp 113) 26 rfl W5.heap.size 35 i35 3 Ybaf.underlying26 hi35 hs35 W5.heap.size 0 (n1 + 1) [] rfl O6.out ⟨g1, 0, none⟩ k _ (fl (lines S2.data.toList L k)) rfl (by rw [fl_length, lines_length]) (head_cells (hI5.out.later HB6.out) hkn) (fl_one _) (by omega) ?_; intro w7 o7 g7; simp only [Nat.zero_add, List.nil_append] at o7 ⊢; have hb7 : Below W5.heap.size W5 w7 := Below.grown HB6.out g7 HB6.out.size (fun j hj => by cases hj; exact Nat.le_refl _); have O7 := toHid o7; have HB7 := toHid hb7; have s0 := cell_keep hb7 r0; have s1 := cell_keep hb7 r1; have s2 := cell_keep hb7 r2; clear o7 g7 hb7)
          | (at_builtin; refine wpList_append_fits _ rfl (.tmp 115) (.tmp 117) 26 rfl W5.heap.size 35 i35 3 Ybaf.underlying26 hi35 hs35 W5.heap.size k (n1 + 1) (fl (lines S2.data.toList L k)) rfl (O7.out.alloc _) ⟨w7.heap.size, 0, none⟩ 1 1 [.string (S2 ++ (⟨#[120]⟩ : ByteArray) ++ body), .int .i64 ((r : Int)), .int .i64 bl] rfl rfl (cell_three_new _ _ _ _ _) (three_one _ _ _) (by omega) ?_; intro w8 o8 g8; have hb8 : Below W5.heap.size W5 w8 := Below.grown (HB7.out.alloc HB7.out.size _) g8 (by have := HB7.out.size; simp; omega) (fun j hj => by cases hj; exact Nat.le_refl _); have O8 := toHid o8; have HB8 := toHid hb8; clear o8 g8 hb8 s0 s1 s2)
          | (at_builtin; refine wpList_append_fits_any _ rfl (.tmp 119) (.tmp 122) 26 rfl W5.heap.size 35 i35 3 Ybaf.underlying26 hi35 hs35 W5.heap.size (k + 1) (n1 + 1) _ rfl O8.out _ (n1 - k) _ (fl ((lines S2.data.toList L n1).drop k)) rfl (by rw [fl_length, List.length_drop, lines_length]) (fun h => some_if h _ _) (fun ad had => tail_any (hI5.out.later HB8.out) hkn had) (fl_one _) (by omega) ?_; intro w9 o9 g9; rw [hlen] at o9 ⊢; have hb9 : Below W5.heap.size W5 w9 := Below.grown HB8.out g9 HB8.out.size (fun j hj => by cases hj; exact Nat.le_refl _); have O9 : Hid (w9.ownsRow W5.heap.size 35 3 (.slice (some ⟨W5.heap.size, 0, none⟩) (n1 + 1) (n1 + 1)) (n1 + 1) (fl (withBad S2.data.toList L n1 k (S2 ++ (⟨#[120]⟩ : ByteArray) ++ body, (r : Int), bl)))) := (by show World.ownsRow _ _ _ _ _ _ _; rw [withBad, fl_append, fl_append]; simpa [fl] using o9); have HB9 := toHid hb9; have t0 := cell_keep hb9 q0; have t1 := cell_keep hb9 q1; have t2 := cell_keep hb9 q2; clear o9 g9 hb9 q0 q1 q2 r0 r1 r2)
          | (go_at_call 8; refine (dedent_with F S2 pz L n1 k W5.heap.size (n1 + 1) (S2 ++ (⟨#[120]⟩ : ByteArray) ++ body, (r : Int), bl) 0 w9 (by rw [HB9.out.tape, hI5.out.below.tape, hb2'.out.tape]; exact HF.out) h1 hkn HP.out hSs2 hsm'.out O9.out HBad.out).mono ?_; rintro e' w10 ⟨b, rfl, kb, hb10⟩))
        all_goals go_ret
        all_goals exact ⟨rfl, hb2'.out.trans ((hI5.out.below.mono hb2'.out.size).trans ((HB9.out.mono (Nat.le_trans hb2'.out.size hI5.out.below.size)).trans (hb10.mono (Nat.le_trans hb2'.out.size (Nat.le_trans hI5.out.below.size HB9.out.size)))))⟩

end Go.Proofs.YbulkajgkFmt
