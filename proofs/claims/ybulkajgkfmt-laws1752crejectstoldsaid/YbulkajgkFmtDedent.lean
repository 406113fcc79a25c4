/-
  THE WALK OF 'dedent' (8): FOR EVERY F.
-/
import Derived.Test.YbulkajgkFmtBuild
namespace Go.Proofs.YbulkajgkFmt
open Go.RowKit Go.Extern.Stop Go.Stop Go.Extern
set_option linter.unusedVariables false

/-! ### Plain -/
/-- a line that is taken, and what becomes of it -/
def Fine (P : List UInt8) (t : ByteArray) (e : Int) (o : List UInt8) : Prop :=
  t.size ≤ 20000 ∧ ((e < 0 ∧ (∃ zs, t.data.toList = spc zs) ∧ o = []) ∨ ∃ r, t.data.toList = P ++ 120 :: r ∧ o = 120 :: r ∧ (e < 0 ∨ (P.length : Int) ≤ e))
/-- a line that is not -/
def Bad (P : List UInt8) (t : ByteArray) (e : Int) : Prop :=
  t.size ≤ 20000 ∧ ((e < 0 ∧ ∃ r, t.data.toList = 120 :: r ∧ P ≠ []) ∨ ∃ r, t.data.toList = P ++ 120 :: r ∧ 0 ≤ e ∧ e < (P.length : Int))

theorem not_head (zs : List Nat) (r : List UInt8) (h : spc zs ≠ []) : (spc zs).isPrefixOf (120 :: r) = false := by
  cases e : spc zs with
  | nil => exact absurd e h
  | cons x l =>
    have := spc_head zs x l e
    rcases this with rfl | rfl | rfl | rfl <;> rfl
theorem cut_off (t : ByteArray) (P r : List UInt8) (n : Nat) (h : t.data.toList = P ++ r) (hn : n = P.length) : t.extract n t.size = ⟨r.toArray⟩ := by
  apply ba_of
  rw [Lib.extract_data, h, hn, size_list, h]
  simp
theorem join_bound (xs : List (List UInt8)) (hn : xs.length ≤ 2000) (hx : ∀ x ∈ xs, x.length ≤ 20000) : (Lib.join xs [10]).length ≤ 140737488355328 := by
  have hl : ∀ ys : List (List UInt8), (∀ x ∈ ys, x.length ≤ 20000) → Lib.lens ys ≤ ys.length * 20000 := by
    intro ys
    induction ys with
    | nil => intro _; simp [Lib.lens]
    | cons y ys ih =>
      intro h
      have h1 := ih (fun x hx => h x (List.mem_cons_of_mem _ hx))
      have h2 := h y (List.mem_cons_self ..)
      simp only [Lib.lens, List.length_cons, List.map_cons, List.sum_cons] at *
      omega
  cases xs with
  | nil => simp [Lib.join_nil]
  | cons x r =>
    rw [Lib.join_length]
    have := hl (x :: r) hx
    simp only [List.length_cons, List.length_nil] at *
    omega

/-- the cells of the lines -/
structure Cells3 (w : World) (g N : Nat) (T : Nat → ByteArray) (E Q : Nat → Int) : Prop where
  c0 : ∀ i, i < N → w.cell? ⟨g, i * 3, none⟩ = some (.string (T i))
  c1 : ∀ i, i < N → w.cell? ⟨g, i * 3 + 1, none⟩ = some (.int .i64 (E i))
  c2 : ∀ i, i < N → w.cell? ⟨g, i * 3 + 2, none⟩ = some (.int .i64 (Q i))
theorem Cells3.later {w w' : World} {g N : Nat} {T : Nat → ByteArray} {E Q : Nat → Int} (h : Cells3 w g N T E Q) (hb : Below w.heap.size w w') : Cells3 w' g N T E Q :=
  ⟨fun i hi => cell_keep hb (h.c0 i hi), fun i hi => cell_keep hb (h.c1 i hi), fun i hi => cell_keep hb (h.c2 i hi)⟩

/-- the row of texts, k of them set -/
structure Texts (w wr : World) (gt N : Nat) (O : Nat → List UInt8) (k : Nat) : Prop where
  below : Below w.heap.size w wr
  base : w.heap.size ≤ gt
  row : wr.rowIs gt 9 N (fun i => .string (if i < k then ⟨(O i).toArray⟩ else ByteArray.empty))
theorem Texts.later {w wr wx : World} {gt N k : Nat} {O : Nat → List UInt8} (h : Texts w wr gt N O k) (hb : Below wr.heap.size wr wx) : Texts w wx gt N O k :=
  ⟨h.below.trans (hb.mono h.below.size), h.base, h.row.of_block (hb.block gt h.row.lt)⟩
theorem Texts.skip {w wr : World} {gt N k : Nat} {O : Nat → List UInt8} (h : Texts w wr gt N O k) (ho : O k = []) : Texts w wr gt N O (k + 1) := by
  refine ⟨h.below, h.base, h.row.congr (fun i _ => ?_)⟩
  by_cases e : i = k
  · subst e; rw [if_neg (by omega), if_pos (by omega), ho]; rfl
  · by_cases hlt : i < k
    · rw [if_pos hlt, if_pos (by omega)]
    · rw [if_neg hlt, if_neg (by omega)]
theorem Texts.put {w wr : World} {gt N k : Nat} {O : Nat → List UInt8} (h : Texts w wr gt N O k) (u : ByteArray) (hu : u = ⟨(O k).toArray⟩) : Texts w (wr.setCell ⟨gt, k, none⟩ (.string u)) gt N O (k + 1) := by
  refine ⟨h.below.setCell h.base _, h.base, (h.row.set k _).congr (fun i _ => ?_)⟩
  by_cases e : i = k
  · subst e; rw [if_pos rfl, if_pos (by omega), hu]
  · rw [if_neg e]
    by_cases hlt : i < k
    · rw [if_pos hlt, if_pos (by omega)]
    · rw [if_neg hlt, if_neg (by omega)]

theorem Ybaf.cells35 : Ybaf.prog.cellsOf 35 = 3 := by kernel_rfl

/-- THE CLOSING LINE IS NOT BLANK -/
theorem dedent_last (F : Interp) (lines : Value) (t : ByteArray) (e n : Int) (w : World) (hF : F.answers w.tape)
    (hbl : ∀ W, Calls Ybaf.prog 11 #[.agg #[.string t, .int .i64 e, .int .i64 n]] W fun e w' => e = .returned (.bool false) ∧ Below W.heap.size W w') :
    Calls Ybaf.prog 8 #[lines, .agg #[.string t, .int .i64 e, .int .i64 n]] w fun e w' => ∃ b, e = .returned (.tuple #[.string ⟨#[]⟩, .iface 38 (.pointer (some ⟨b, 0, none⟩))]) ∧ w'.cell? ⟨b, 0, none⟩ = some (.int .i64 n) ∧ Below w.heap.size w w' := by
  have HB := toHid hbl
  have HF := toHid hF
  clear hbl hF
  go_enter Ybaf.func8, Ybaf.ntmps8
  go_wp2_with (first
    | (go_at_call 11; refine (HB.out _).mono ?_; rintro e' w1 ⟨rfl, hb1⟩; have k2 : w1.cell? ⟨w.heap.size, 2, none⟩ = some (.int .i64 n) := cell_keep hb1 (by simp); have hbw : Below w.heap.size w w1 := ((Below.refl _ _).alloc (Nat.le_refl _) _).trans (hb1.mono (by simp)); clear hb1)
    | (go_at_call 12; refine (errf_any F n _ w1 (by rw [hbw.tape]; exact HF.out) fmt_close).mono ?_; rintro e' w2 ⟨b, rfl, kb, hb2⟩))
  go_ret2
  exact ⟨b, rfl, kb, hbw.trans (hb2.mono hbw.size)⟩

set_option maxRecDepth 1000000 in
set_option maxHeartbeats 1600000 in
theorem dedent_core (F : Interp) (g N cap : Nat) (T : Nat → ByteArray) (E Q : Nat → Int) (Pb : ByteArray) (pz : List Nat) (nL : Int) (O : Nat → List UInt8) (M : Nat) (w : World) (hF : F.answers w.tape)
    (hN : N ≤ 2000) (hP : Pb.data.toList = spc pz) (hPs : Pb.size ≤ 4096) (hc : Cells3 w g N T E Q) (hM : M ≤ N) (fine : ∀ i, i < M → Fine (spc pz) (T i) (E i) (O i)) (hend : M < N → Bad (spc pz) (T M) (E M)) :
    Calls Ybaf.prog 8 #[.slice (some ⟨g, 0, none⟩) N cap, .agg #[.string Pb, .int .i64 (-1), .int .i64 nL]] w fun e w' => Below w.heap.size w w' ∧
      ((M = N ∧ e = .returned (.tuple #[.string ⟨(Lib.join ((List.range N).map O) [10]).toArray⟩, .nilIface])) ∨
       (M < N ∧ ∃ b, e = .returned (.tuple #[.string ⟨#[]⟩, .iface 38 (.pointer (some ⟨b, 0, none⟩))]) ∧ w'.cell? ⟨b, 0, none⟩ = some (.int .i64 (Q M)))) := by
  have HF := toHid hF
  have HP := toHid hP
  have HC := toHid hc
  have HFi := toHid fine
  have HEn := toHid hend
  have hPl : Pb.size = (spc pz).length := by rw [size_list, hP]
  have HPl := toHid hPl
  clear hF hP hc fine hend hPl
  have c35 := Ybaf.cells35
  have hmk := run_make_row' (P := Ybaf.prog) 27 9 (.string ByteArray.empty) 16 Ybaf.underlying27 Ybaf.info9 rfl .i64 .i64 N (by omega) (by omega)
  go_enter Ybaf.func8, Ybaf.ntmps8
  go_wp2_with (go_at_call 11; refine (blank_all Pb pz (-1) nL _ HP.out (by omega)).mono ?_; rintro e' w1 ⟨rfl, hb1⟩; have k0 : w1.cell? ⟨w.heap.size, 0, none⟩ = some (.string Pb) := cell_keep hb1 (by simp); have hbw : Below w.heap.size w w1 := ((Below.refl _ _).alloc (Nat.le_refl _) _).trans (hb1.mono (by simp)); clear hb1)
  clear hmk
  have hT0 : Hid (Texts w (w1.alloc (.cells (madeCells #[.string ByteArray.empty] N) 9)) w1.heap.size N O 0) :=
    ⟨hbw.alloc hbw.size _, hbw.size, (World.rowIs_made w1 (.string ByteArray.empty) N 9).congr (fun i _ => by simp)⟩
  clear k0 hbw
  generalize w1.heap.size = gt at *
  go_loopg [23] M (fun q s23 wr => ∃ k : Nat, k + q = M ∧ s23 = .int .i64 (k : Int) ∧ Hid (Texts w wr gt N O k))
  case atStart => exact ⟨0, by omega, rfl, hT0⟩
  case round =>
    clear hT0
    obtain ⟨k, hk, rfl, hX⟩ := hrel
    have hk' := toHid hk
    by_cases hkN : k < N
    · -- a line is at hand
      have V := HC.out.later hX.out.below
      have l0 := V.c0 k hkN
      have l1 := V.c1 k hkN
      have l2 := V.c2 k hkN
      have hkz : (k : Int) < (N : Int) := by omega
      clear V
      obtain ⟨t, ht⟩ : ∃ t, t = T k := ⟨_, rfl⟩
      obtain ⟨e, he⟩ : ∃ e, e = E k := ⟨_, rfl⟩
      obtain ⟨n, hn⟩ : ∃ n, n = Q k := ⟨_, rfl⟩
      rw [← ht] at l0
      rw [← he] at l1
      rw [← hn] at l2
      have HTE := toHid (And.intro ht (And.intro he hn))
      clear ht he hn
      have m0 : (wr.alloc (.cells #[.string t, .int .i64 e, .int .i64 n] 35)).cell? ⟨wr.heap.size, 0, none⟩ = some (.string t) := by simp
      have m1 : (wr.alloc (.cells #[.string t, .int .i64 e, .int .i64 n] 35)).cell? ⟨wr.heap.size, 1, none⟩ = some (.int .i64 e) := by simp
      have m2 : (wr.alloc (.cells #[.string t, .int .i64 e, .int .i64 n] 35)).cell? ⟨wr.heap.size, 2, none⟩ = some (.int .i64 n) := by simp
      have hX2 := toHid (hX.out.later ((Below.refl _ _).alloc (Nat.le_refl _) (.cells #[.string t, .int .i64 e, .int .i64 n] 35)))
      go_upto_region 9 with fail
      clear l0 l1 l2 hX
      generalize wr.alloc (.cells #[.string t, .int .i64 e, .int .i64 n] 35) = W1 at *
      generalize wr.heap.size = hs0 at *
      cases gk with
      | zero =>
        -- the line that is not taken
        obtain rfl : k = M := by omega
        have hbad : Bad (spc pz) t e := by have := HEn.out hkN; rw [← HTE.out.1, ← HTE.out.2.1] at this; exact this
        have hF1 : Hid (F.answers W1.tape) := by show F.answers W1.tape; rw [hX2.out.below.tape]; exact HF.out
        obtain ⟨hsz, ⟨he, r, hr, hne⟩ | ⟨r, hr, he0, he1⟩⟩ := hbad
        · have HR := toHid (show t.data.toList = spc [] ++ 120 :: r from hr)
          have HN := toHid (show Pb.data.toList.isPrefixOf t.data.toList = false by rw [HP.out, hr]; exact not_head pz r hne)
          clear hr hne hk
          go_wp2_with (first
            | (go_at_call 11; refine (blank_x t [] r e n _ HR.out (by omega) he).mono ?_; rintro e' w2 ⟨rfl, hb2⟩; have q0 := cell_keep hb2 m0; have q1 := cell_keep hb2 m1; have q2 := cell_keep hb2 m2; have hB2 := toHid hb2; clear hb2)
            | (go_at_call 13; refine (has_no t Pb _ HN.out (by omega)).mono ?_; rintro e' w3 ⟨rfl, rfl⟩)
            | (go_at_call 12; refine (errf_any F n _ w2 (by rw [hB2.out.tape]; exact hF1.out) fmt_line).mono ?_; rintro e' w4 ⟨b, rfl, kb, hb4⟩))
          go_ret2
          exact ⟨hX2.out.below.trans ((hB2.out.mono hX2.out.below.size).trans (hb4.mono (Nat.le_trans hX2.out.below.size hB2.out.size))), .inr ⟨hkN, b, rfl, by rw [kb, HTE.out.2.2]⟩⟩
        · have HR := toHid (show t.data.toList = Pb.data.toList ++ 120 :: r by rw [HP.out]; exact hr)
          have he2 : e < (Pb.size : Int) := by rw [HPl.out]; exact he1
          clear hr hk he1
          go_wp2_with (first
            | (go_at_call 11; refine (blank_esc t e n _ he0).mono ?_; rintro e' w2 ⟨rfl, hb2⟩; have q0 := cell_keep hb2 m0; have q1 := cell_keep hb2 m1; have q2 := cell_keep hb2 m2; have hB2 := toHid hb2; clear hb2)
            | (go_at_call 13; refine (has_yes t Pb (120 :: r) _ HR.out (by omega)).mono ?_; rintro e' w3 ⟨rfl, rfl⟩)
            | (go_at_call 12; refine (errf_any F n _ w2 (by rw [hB2.out.tape]; exact hF1.out) fmt_line).mono ?_; rintro e' w4 ⟨b, rfl, kb, hb4⟩))
          go_ret2
          exact ⟨hX2.out.below.trans ((hB2.out.mono hX2.out.below.size).trans (hb4.mono (Nat.le_trans hX2.out.below.size hB2.out.size))), .inr ⟨hkN, b, rfl, by rw [kb, HTE.out.2.2]⟩⟩
      | succ q =>
        have hf : Fine (spc pz) t e (O k) := by have := HFi.out k (by omega); rw [← HTE.out.1, ← HTE.out.2.1] at this; exact this
        obtain ⟨hsz, ⟨he, ⟨zs, hz⟩, ho⟩ | ⟨r, hr, ho, he⟩⟩ := hf
        · have HO := toHid ho
          have HZ := toHid hz
          clear ho hz hk
          go_wp2_with (go_at_call 11; refine (blank_all t zs e n _ HZ.out he).mono ?_; rintro e' w2 ⟨rfl, hb2⟩)
          go_roundg q
          case rel => exact ⟨k + 1, by have := hk'.out; omega, by go_num, (hX2.out.later hb2).skip HO.out⟩
          case measure => omega
        · have HR := toHid (show t.data.toList = Pb.data.toList ++ 120 :: r by rw [HP.out]; exact hr)
          have HR2 := toHid hr
          have hle : Pb.size ≤ t.size := by rw [size_list, size_list, HR.out]; simp
          have HC2 := toHid (show t.extract Pb.size t.size = ⟨(O k).toArray⟩ by rw [ho]; exact cut_off t (spc pz) (120 :: r) _ hr HPl.out)
          have hPz : (Pb.size : Int) = ((spc pz).length : Int) := by rw [HPl.out]
          clear hr ho hk
          rcases he with he | he
          · clear hPz
            go_wp2_with (first
              | (go_at_call 11; refine (blank_x t pz r e n _ HR2.out (by omega) he).mono ?_; rintro e' w2 ⟨rfl, hb2⟩; have q0 := cell_keep hb2 m0; have q1 := cell_keep hb2 m1; have q2 := cell_keep hb2 m2; have hX3 := toHid (hX2.out.later hb2); obtain ⟨v3, q3⟩ : ∃ v, w2.cell? ⟨gt, k, none⟩ = some v := ⟨_, hX3.out.row.cell hkN⟩; have q4 : w2.frozen? ⟨gt, k, none⟩ = false := hX3.out.row.frozen k; clear hb2)
              | (go_at_call 13; refine (has_yes t Pb (120 :: r) _ HR.out (by omega)).mono ?_; rintro e' w3 ⟨rfl, rfl⟩))
            go_roundg q
            case rel => exact ⟨k + 1, by have := hk'.out; omega, by go_num, hX3.out.put _ HC2.out⟩
            case measure => omega
          · have he0 : 0 ≤ e := by omega
            have he2 : (Pb.size : Int) ≤ e := by omega
            clear hPz
            go_wp2_with (first
              | (go_at_call 11; refine (blank_esc t e n _ he0).mono ?_; rintro e' w2 ⟨rfl, hb2⟩; have q0 := cell_keep hb2 m0; have q1 := cell_keep hb2 m1; have q2 := cell_keep hb2 m2; have hX3 := toHid (hX2.out.later hb2); obtain ⟨v3, q3⟩ : ∃ v, w2.cell? ⟨gt, k, none⟩ = some v := ⟨_, hX3.out.row.cell hkN⟩; have q4 : w2.frozen? ⟨gt, k, none⟩ = false := hX3.out.row.frozen k; clear hb2)
              | (go_at_call 13; refine (has_yes t Pb (120 :: r) _ HR.out (by omega)).mono ?_; rintro e' w3 ⟨rfl, rfl⟩))
            go_roundg q
            case rel => exact ⟨k + 1, by have := hk'.out; omega, by go_num, hX3.out.put _ HC2.out⟩
            case measure => omega
    · obtain rfl : k = N := by omega
      obtain rfl : M = k := by omega
      have hJ := Ybaf.strings_Join gt 0 M ((List.range M).map fun i => (⟨(O i).toArray⟩ : ByteArray)) ⟨#[10]⟩ wr
        (fun j x hx => by
          rw [List.getElem?_map] at hx
          obtain ⟨j', hj', rfl⟩ := Option.map_eq_some_iff.1 hx
          obtain ⟨hlt, he⟩ := List.getElem?_eq_some_iff.1 hj'
          rw [List.getElem_range] at he
          subst he
          rw [List.length_range] at hlt
          rw [Nat.zero_add, hX.out.row.cell hlt, if_pos hlt])
        hX.out.row.lt (by simp; omega) (by simp)
        (by
          rw [List.map_map]
          refine join_bound _ (by simp; omega) (fun x hx => ?_)
          rw [List.mem_map] at hx
          obtain ⟨i, hi, rfl⟩ := hx
          have hi2 := List.mem_range.1 hi
          obtain ⟨hsz, h | ⟨r, hr, ho, _⟩⟩ := HFi.out i hi2
          · simp [h.2.2]
          · simp only [Function.comp]
            rw [ho]
            rw [size_list, hr] at hsz
            simp at hsz ⊢
            omega)
      rw [List.length_map, List.length_range, List.map_map] at hJ
      have hJ' := toHid hJ
      clear hJ
      go_wp2_with (go_at_call 14; refine hJ'.out.mono ?_; rintro e' w2 ⟨rfl, hb2⟩)
      go_ret2
      first
        | exact ⟨hX.out.below.trans (hb2.mono hX.out.below.size), .inl ⟨rfl, rfl⟩⟩
        | exact ⟨hX.out.below.trans (hb2.mono hX.out.below.size), rfl⟩

end Go.Proofs.YbulkajgkFmt
