/-
  THE WALK OF 'zzs1750agraph' (6): the table is filled up to the least number of edits.
-/
import Derived.Test.YbulkajfiTable
import Derived.Deep.LoopGhost
import Derived.Deep.Cut
import Derived.Deep.CutRange
namespace Go.Proofs.Ybulkajfi
open Go.RowKit
set_option linter.unusedVariables false

theorem toHid {p : Prop} (h : p) : Hid p := h
theorem Yba.info39 : (Yba.prog.info? 39).map (fun i => (i.zero, i.size, i.bytes)) = some (some (.slice none 0 0), 1, 24) := by kernel_rfl

/-- the graph is boxed: a new block -/
theorem graph_done {w w3 : World} {F : Nat → Nat → Int} {d D ga gb n m ca cb gf cf : Nat} {rb : Nat → Nat} (hd : d = D) (hb : Below w.heap.size w w3)
    (hg : ∀ j, j ≤ d → w3.cell? ⟨gf, j, none⟩ = some (.slice (some ⟨rb j, 0, none⟩) (j + 1) (j + 1)) ∧ ∀ i, i ≤ j → w3.cell? ⟨rb j, i, none⟩ = some (.int .i64 (F j i))) :
    Ending.returned (.tuple #[.pointer (some ⟨w3.heap.size, 0, none⟩), .int .i64 (d : Int)]) = .returned (.tuple #[.pointer (some ⟨w3.heap.size, 0, none⟩), .int .i64 (D : Int)]) ∧
    Graph (w3.alloc (.cells #[.slice (some ⟨ga, 0, none⟩) n ca, .slice (some ⟨gb, 0, none⟩) m cb, .slice (some ⟨gf, 0, none⟩) (d + 1) cf] 36)) w3.heap.size (some ⟨ga, 0, none⟩) (some ⟨gb, 0, none⟩) n ca m cb gf (D + 1) cf ∧
    (∀ j, j ≤ D → (w3.alloc (.cells #[.slice (some ⟨ga, 0, none⟩) n ca, .slice (some ⟨gb, 0, none⟩) m cb, .slice (some ⟨gf, 0, none⟩) (d + 1) cf] 36)).cell? ⟨gf, j, none⟩ = some (.slice (some ⟨rb j, 0, none⟩) (j + 1) (j + 1)) ∧
      ∀ i, i ≤ j → (w3.alloc (.cells #[.slice (some ⟨ga, 0, none⟩) n ca, .slice (some ⟨gb, 0, none⟩) m cb, .slice (some ⟨gf, 0, none⟩) (d + 1) cf] 36)).cell? ⟨rb j, i, none⟩ = some (.int .i64 (F j i))) ∧
    Below w.heap.size w (w3.alloc (.cells #[.slice (some ⟨ga, 0, none⟩) n ca, .slice (some ⟨gb, 0, none⟩) m cb, .slice (some ⟨gf, 0, none⟩) (d + 1) cf] 36)) := by
  subst hd
  have keep : ∀ (o : Obj) (a : Addr) (v : Value), w3.cell? a = some v → (w3.alloc o).cell? a = some v := fun o a v h => (((Below.refl w3.heap.size w3).alloc (Nat.le_refl _) o).cell (World.block_lt_of_cell? _ _ h)).trans h
  exact ⟨rfl, ⟨by simp, by simp, by simp⟩, fun j hj => ⟨keep _ _ _ (hg j hj).1, fun i hi => keep _ _ _ ((hg j hj).2 i hi)⟩, hb.alloc hb.size _⟩

set_option maxRecDepth 1000000 in
set_option maxHeartbeats 1600000 in
theorem graph_any (A B : Nat → ByteArray) (ga gb n m ca cb : Nat) (w : World) (hn : n ≤ 300) (hm : m ≤ 300) (h2 : Two w A B ga gb n m) :
    Calls Yba.prog 6 #[.slice (some ⟨ga, 0, none⟩) n ca, .slice (some ⟨gb, 0, none⟩) m cb] w fun e w' => ∃ (p gf cf : Nat) (rb : Nat → Nat),
      e = .returned (.tuple #[.pointer (some ⟨p, 0, none⟩), .int .i64 (Myers.dist A B n m : Int)]) ∧ Graph w' p (some ⟨ga, 0, none⟩) (some ⟨gb, 0, none⟩) n ca m cb gf (Myers.dist A B n m + 1) cf ∧
      (∀ j, j ≤ Myers.dist A B n m → w'.cell? ⟨gf, j, none⟩ = some (.slice (some ⟨rb j, 0, none⟩) (j + 1) (j + 1)) ∧ ∀ i, i ≤ j → w'.cell? ⟨rb j, i, none⟩ = some (.int .i64 (Myers.reach A B n m j i))) ∧
      Below w.heap.size w w' := by
  obtain ⟨i0, hi, hz0, hz1, hz2⟩ := info_parts Yba.info39
  obtain ⟨F, hF⟩ : ∃ F, F = Myers.reach A B n m := ⟨_, rfl⟩
  have Fbd : ∀ d i, i ≤ d → -1 ≤ F d i ∧ F d i ≤ n := fun d i h => by rw [hF]; exact reach_bd A B n m d i h
  obtain ⟨X, hX⟩ : ∃ X, X = ahead A B n m := ⟨_, rfl⟩
  have Xok : ∀ d i, i ≤ d → X d i = -1 ∨ (0 ≤ X d i ∧ X d i ≤ n ∧ 0 ≤ X d i - (2 * (i : Int) - d) ∧ X d i - (2 * (i : Int) - d) ≤ m) := fun d i h => by rw [hX]; exact ahead_ok A B n m d i h
  have X0 : ∀ i, X 0 i = 0 := fun i => by rw [hX]; rfl
  have XS : ∀ d i : Nat, X (d + 1) i = Myers.pick n m (Myers.look (F d) d (2 * (i : Int) - (d + 1) + 1)) (Myers.look (F d) d (2 * (i : Int) - (d + 1) - 1)) (2 * (i : Int) - (d + 1)) := fun d i => by rw [hX, hF]; rfl
  have FX : ∀ d i, i ≤ d → F d i = Myers.fill A B n m (X d i) (2 * (i : Int) - d) := fun d i h => by rw [hX, hF]; exact reach_ahead A B n m d i h
  obtain ⟨D, hD⟩ : ∃ D, D = Myers.dist A B n m := ⟨_, rfl⟩
  have Dle : D ≤ n + m := by rw [hD]; exact Myers.dist_le A B n m
  have Hit : ∀ d, d ≤ D → (Myers.look (F d) d ((n : Int) - m) = n ↔ d = D) := fun d h => by rw [hF, hD]; rw [hD] at h; exact Myers.hit A B n m d h
  rw [← hF, ← hD]
  have FX' := toHid FX
  have Fbd' := toHid Fbd
  have Xok' := toHid Xok
  have X0' := toHid X0
  have XS' := toHid XS
  have Hit' := toHid Hit
  clear hF hX hD FX Fbd Xok X0 XS Hit
  go_enter Yba.func6, Yba.ntmps6
  go_wp2
  go_loopg [8, 9, 10] D (fun g v s9 s10 wr => ∃ (d : Nat) (rb : Nat → Nat), d + g = D ∧ s9 = .int .i64 0 ∧ s10 = .int .i64 (d : Int) ∧ Tab w.heap.size F d rb v wr ∧ Below w.heap.size w wr)
  case atStart => exact ⟨0, fun _ => 0, by omega, rfl, rfl, ⟨World.ownsRow_nil _ _ _ _, fun j hj => by omega⟩, Below.refl _ _⟩
  case round =>
    obtain ⟨d, rb, hd, rfl, rfl, hT, hb⟩ := hrel
    have hmk := run_make_row' (P := Yba.prog) 39 3 (.int .i64 0) 8 Yba.underlying39 Yba.info3 rfl .i64 .i64 (d + 1) (by omega) (by omega)
    have ec : ((d + 1 : Nat) : Int) = (d : Int) + 1 := by omega
    rw [ec] at hmk
    clear ec
    have hdn : (d : Int) ≤ (n : Int) + m := by omega
    have hF0 := toHid (fill_start hb hT)
    have hd' := toHid hd
    have hd2 : d ≤ 600 := by omega
    clear hd
    clear hT hb
    go_wp2
    clear hmk
    generalize wr.heap.size = r at *
    go_loopg [12] (d + 1) (fun g s12 wi => ∃ t : Nat, t + g = d + 1 ∧ s12 = .int .i64 (t : Int) ∧ Fill w F d rb u8 r t wi)
    case atStart => exact ⟨0, by omega, rfl, hF0.out⟩
    case round =>
      clear hF0
      obtain ⟨t, ht, rfl, hI⟩ := hrel
      cases gk with
      | zero =>
        obtain rfl : t = d + 1 := by omega
        clear ht
        have hI' := toHid hI
        have hB := hI.below.size
        have hown := hI.tab.own
        have hH := toHid (Hit'.out d (by have := hd'.out; omega))
        have hFd : ∀ i, i ≤ d → -1 ≤ F d i ∧ F d i ≤ 1000 := fun i h => by have := Fbd'.out d i h; omega
        obtain ⟨bL1, bL2⟩ := look_bd (F d) d ((n : Int) - m) hFd
        clear hI hFd
        by_cases hdD : d = D
        · have HdD := toHid hdD
          clear hdD
          go_wp2_with (first
            | (at_builtin; refine wpList_append_own _ rfl (.tmp 113) (.tmp 115) 34 rfl w.heap.size 39 i0 (.slice none 0 0) 1 24 Yba.underlying34 hi hz0 hz1 hz2 rfl (by decide) _ _ _ rfl (hown.alloc _) ⟨wr.heap.size, 0, none⟩ 1 1 [.slice (some ⟨r, 0, none⟩) (d + 1) (d + 1)] rfl rfl (cell_one_new _ _ _) (fun x hx => by simp at hx; subst hx; rfl) (by unfold maxLen; omega) (by omega) (by simp; omega) ?_; intro v' w3 hown' hgrow hnil; obtain ⟨rb', hT', hrd, hb'⟩ := fill_done hI'.out hown' hgrow; clear hown' hgrow hnil; obtain ⟨gf, cf, rfl, hg⟩ := hT'.get; have hg' := toHid hg; have hb3 := toHid hb'; clear hg hT' hb' hrd)
            | (go_at_call 9; refine (get_any gf cf (d + 1) (rb' d) d ((n : Int) - m) (F d) w3 (by omega) (by omega) (by omega) (by omega) (hg'.out d (Nat.le_refl _)).1 (hg'.out d (Nat.le_refl _)).2).mono ?_; rintro e' w' ⟨rfl, rfl⟩; rw [hH.out.2 HdD.out]))
          exact bodyPost_ret (v := .tuple #[.pointer (some ⟨w3.heap.size, 0, none⟩), .int .i64 (d : Int)]) (by simp [results, Yba.results6, go_sem]) rfl ⟨_, gf, cf, rb', graph_done HdD.out hb3.out hg'.out⟩
        · have hne : (Myers.look (F d) d ((n : Int) - m) == (n : Int)) = false := by
            have := hH.out
            simp only [beq_eq_false_iff_ne]
            exact fun h => hdD (this.1 h)
          have HdD := toHid hdD
          clear hdD
          go_wp2_with (first
            | (at_builtin; refine wpList_append_own _ rfl (.tmp 113) (.tmp 115) 34 rfl w.heap.size 39 i0 (.slice none 0 0) 1 24 Yba.underlying34 hi hz0 hz1 hz2 rfl (by decide) _ _ _ rfl (hown.alloc _) ⟨wr.heap.size, 0, none⟩ 1 1 [.slice (some ⟨r, 0, none⟩) (d + 1) (d + 1)] rfl rfl (cell_one_new _ _ _) (fun x hx => by simp at hx; subst hx; rfl) (by unfold maxLen; omega) (by omega) (by simp; omega) ?_; intro v' w3 hown' hgrow hnil; obtain ⟨rb', hT', hrd, hb'⟩ := fill_done hI'.out hown' hgrow; clear hown' hgrow hnil; obtain ⟨gf, cf, rfl, hg⟩ := hT'.get; have hg' := toHid hg; have hb3 := toHid (And.intro hT' hb'); clear hg hT' hb' hrd)
            | (go_at_call 9; refine (get_any gf cf (d + 1) (rb' d) d ((n : Int) - m) (F d) w3 (by omega) (by omega) (by omega) (by omega) (hg'.out d (Nat.le_refl _)).1 (hg'.out d (Nat.le_refl _)).2).mono ?_; rintro e' w' ⟨rfl, rfl⟩))
          go_roundg (D - (d + 1))
          case rel => exact ⟨d + 1, rb', by have := hd'.out; have := HdD.out; omega, rfl, by go_num, hb3.out.1, hb3.out.2⟩
          case measure => have := hd'.out; have := HdD.out; omega
      | succ q =>
        have htd : t ≤ d := by omega
        have ht' := toHid ht
        clear ht
        have htz : (t : Int) ≤ (d : Int) := by omega
        go_upto_if 42 with fail
        obtain ⟨k, hk⟩ : ∃ k : Int, k = 2 * (t : Int) - d := ⟨_, rfl⟩
        rw [← hk]
        have hk' := toHid hk
        have hk1 : -600 ≤ k := by omega
        have hk2 : k ≤ 600 := by omega
        clear hk
        go_cut [14, 15, 16] from 32 to 112 (fun s14 s15 s16 wc => s14 = .int .i64 (X d t) ∧ wc = wr)
        case first =>
          cases d with
          | zero =>
            go_wp2_with fail
            go_meet
            case rel => exact ⟨by rw [X0'.out], rfl⟩
          | succ e =>
            obtain ⟨gf, cf, rfl, hg⟩ := hI.tab.get
            have hFe : ∀ i, i ≤ e → -1 ≤ F e i ∧ F e i ≤ 1000 := fun i h => by have := Fbd'.out e i h; omega
            have cP := toHid (get_any gf cf (e + 1) (rb e) e (k + 1) (F e) wr (by omega) (by omega) (by omega) (by omega) (hg e (Nat.le_refl _)).1 (hg e (Nat.le_refl _)).2)
            have cQ := toHid (get_any gf cf (e + 1) (rb e) e (k - 1) (F e) wr (by omega) (by omega) (by omega) (by omega) (hg e (Nat.le_refl _)).1 (hg e (Nat.le_refl _)).2)
            have hXe : X (e + 1) t = Myers.pick n m (Myers.look (F e) e (k + 1)) (Myers.look (F e) e (k - 1)) k := by
              have h1 := XS'.out e t
              have h2 : 2 * (t : Int) - ((e : Int) + 1) = k := by have := hk'.out; omega
              rw [h2] at h1
              exact h1
            have hXe' := toHid hXe
            obtain ⟨bp1, bp2⟩ := look_bd (F e) e (k + 1) hFe
            obtain ⟨bq1, bq2⟩ := look_bd (F e) e (k - 1) hFe
            clear hXe hg hFe hI
            generalize Myers.look (F e) e (k + 1) = P at *
            generalize Myers.look (F e) e (k - 1) = Q at *
            go_wp2_with fail
            refine cP.out.mono ?_
            rintro e' w' ⟨rfl, rfl⟩
            go_wp2_with fail
            all_goals (refine cQ.out.mono ?_; rintro e' w' ⟨rfl, rfl⟩)
            all_goals go_wp2_with fail
            all_goals go_meet
            all_goals first
              | exact ⟨by rw [hXe'.out]; exact congrArg _ (pick_dr (by omega) (by omega)).1, rfl⟩
              | exact ⟨by rw [hXe'.out]; exact congrArg _ (pick_d (by omega) (by omega)).1, rfl⟩
              | exact ⟨by rw [hXe'.out]; exact congrArg _ (pick_r (by omega) (by omega)).1, rfl⟩
              | exact ⟨by rw [hXe'.out]; exact congrArg _ (pick_n (by omega) (by omega)).1, rfl⟩
        case rest =>
          obtain ⟨rfl, rfl⟩ := hcut
          have hFX := FX'.out d t htd
          have hxo := Xok'.out d t htd
          rw [← hk'.out] at hFX hxo
          have k2 : ∃ v, wc.cell? ⟨r, t, none⟩ = some v := ⟨_, hI.row.cell (by omega)⟩
          obtain ⟨v2, k2⟩ := k2
          have k3 : wc.frozen? ⟨r, t, none⟩ = false := hI.row.frozen t
          have hI' := toHid hI
          clear hI
          by_cases hx0 : 0 ≤ X d t
          · obtain ⟨x0, hx⟩ : ∃ x0 : Nat, X d t = (x0 : Int) := ⟨(X d t).toNat, by omega⟩
            rw [hx] at hFX hxo ⊢
            obtain ⟨y0, hxy⟩ : ∃ y0 : Nat, (x0 : Int) - k = (y0 : Int) := ⟨((x0 : Int) - k).toNat, by omega⟩
            have hsn : Myers.snake A B n m n x0 k = F d t := by rw [hFX]; unfold Myers.fill; rw [if_pos (by omega)]
            have hS0 := toHid (show Myers.snake A B n m n x0 k = F d t ∧ (x0 : Int) - k = y0 ∧ x0 ≤ n ∧ y0 ≤ m from ⟨hsn, hxy, by omega, by omega⟩)
            have hx00 : 0 ≤ (x0 : Int) := by omega
            have hy00 : (y0 : Int) ≤ 300 := by omega
            have h2r := h2.later hI'.out.below
            clear hx hx0 hxo hFX hsn
            go_wp2
            clear hxy
            go_loopg [14, 17] n (fun g s14 s17 wx => ∃ x y nq : Nat, s14 = .int .i64 (x : Int) ∧ s17 = .int .i64 (y : Int) ∧ Hid (Myers.snake A B n m g x k = F d t ∧ (x : Int) - k = y) ∧ x ≤ n ∧ y ≤ m ∧ n - x ≤ g ∧ wx = wc.drewN nq)
            case atStart => exact ⟨x0, y0, 0, rfl, rfl, ⟨hS0.out.1, hS0.out.2.1⟩, hS0.out.2.2.1, hS0.out.2.2.2, by omega, rfl⟩
            case round =>
              clear hS0 hx00 hy00
              obtain ⟨x, y, nq, rfl, rfl, hsn, hxn, hym, hgk, rfl⟩ := hrel
              by_cases c1 : x < n
              · have d1 : decide ((x : Int) < (n : Int)) = true := decide_eq_true (by omega)
                have i1 : (x : Int) < (n : Int) := by omega
                by_cases c2 : y < m
                · have d2 : decide ((y : Int) < (m : Int)) = true := decide_eq_true (by omega)
                  have i2 : (y : Int) < (m : Int) := by omega
                  have ka := h2r.ca x c1
                  have kb := h2r.cb y c2
                  by_cases c3 : A x = B y
                  · have e3 : ((A x).toList == (B y).toList) = true := by rw [c3]; simp
                    have C3 := toHid c3
                    clear c3
                    obtain ⟨f, rfl⟩ : ∃ f, gk = f + 1 := ⟨gk - 1, by omega⟩
                    go_wp2
                    go_quiet (fail)
                    go_wp2
                    go_roundg f
                    case rel => exact ⟨x + 1, y + 1, _, by go_num, by go_num, ⟨by have := snake_on A B n m f x y k hsn.out.2 c1 c2 C3.out; rw [← hsn.out.1, this]; rfl, by have := hsn.out.2; omega⟩, by omega, by omega, by omega, rfl⟩
                    case measure => omega
                  · have e3 := bytes_ne c3
                    have E := toHid (snake_end A B n m gk x y k hsn.out.2 (fun h => c3 h.2.2))
                    clear c3
                    go_wp2
                    go_quiet (fail)
                    go_wp2
                    go_roundg q
                    case rel => exact ⟨t + 1, by have := ht'.out; omega, by go_num, fill_step (hI'.out.drewN _) _ (by rw [← hsn.out.1, E.out])⟩
                    case measure => omega
                · have d2 : decide ((y : Int) < (m : Int)) = false := decide_eq_false (by omega)
                  have E := toHid (snake_end A B n m gk x y k hsn.out.2 (fun h => c2 h.2.1))
                  go_wp2
                  go_quiet (fail)
                  go_wp2
                  go_roundg q
                  case rel => exact ⟨t + 1, by have := ht'.out; omega, by go_num, fill_step (hI'.out.drewN _) _ (by rw [← hsn.out.1, E.out])⟩
                  case measure => omega
              · have d1 : decide ((x : Int) < (n : Int)) = false := decide_eq_false (by omega)
                have E := toHid (snake_end A B n m gk x y k hsn.out.2 (fun h => c1 h.1))
                go_wp2
                go_quiet (fail)
                go_wp2
                go_roundg q
                case rel => exact ⟨t + 1, by have := ht'.out; omega, by go_num, fill_step (hI'.out.drewN _) _ (by rw [← hsn.out.1, E.out])⟩
                case measure => omega
          · have hx1 : X d t = -1 := by omega
            rw [hx1] at hFX ⊢
            have hFX' := toHid hFX
            clear hx1 hx0 hxo hFX
            go_wp2
            go_roundg q
            case rel => exact ⟨t + 1, by have := ht'.out; omega, by go_num, fill_step hI'.out _ (by rw [hFX'.out]; rfl)⟩
            case measure => omega

end Go.Proofs.Ybulkajfi
