/-
  THE WALK OF 'LawS1752CStrips' (3), over the contracts of all that it calls: FOR EVERY F.
-/
import Derived.Test.YbulkajgkFmtDedent
import Derived.Test.YbulkajgkFmtJoin
namespace Go.Proofs.YbulkajgkFmt
open Go.RowKit Go.Extern.Stop Go.Stop Go.Extern
set_option linter.unusedVariables false

/-- what the walks are told of the slice of bytes -/
structure PxView (w : World) (a : Option Addr) (b off len : Nat) (z : Nat → Int) : Prop where
  addr : 0 < len → a = some ⟨b, off, none⟩
  bd : ∀ i, i < len → 0 ≤ z i ∧ z i ≤ 255
  cell : ∀ i, i < len → w.cell? ⟨b, off + i, none⟩ = some (.int .u8 (z i))
theorem PxView.later {w w' : World} {a : Option Addr} {b off len : Nat} {z : Nat → Int} (h : PxView w a b off len z) (hb : Below w.heap.size w w') : PxView w' a b off len z :=
  ⟨h.addr, h.bd, fun i hi => cell_keep hb (h.cell i hi)⟩

/-- the lines that 'build' makes are taken by 'dedent' -/
theorem fine_of (P : List UInt8) (l : Ln) (hb : l.body.size ≤ 1024) (hP : P.length ≤ 4096) : Fine P ⟨(tx P l).toArray⟩ (es P l) (wn l) := by
  have hbs : l.body.data.toList.length ≤ 1024 := by rw [← size_list]; exact hb
  unfold tx es wn
  cases hbl : l.blank with
  | true =>
    simp only [if_true]
    refine ⟨by rw [size_list]; simp; omega, .inl ⟨by omega, ⟨List.replicate (l.pad % 8).toNat 0, by rw [spc_zeros]⟩, rfl⟩⟩
  | false =>
    simp only [Bool.false_eq_true, if_false]
    refine ⟨by rw [size_list]; simp; omega, .inr ⟨l.body.data.toList, rfl, rfl, ?_⟩⟩
    by_cases h1 : l.esc % 3 = 1
    · rw [if_pos h1]; right; omega
    · rw [if_neg h1]
      by_cases h2 : l.esc % 3 = 2
      · rw [if_pos h2]; right; omega
      · rw [if_neg h2]; left; omega
theorem wn_size (l : Ln) (hb : l.body.size ≤ 1024) : ((⟨(wn l).toArray⟩ : ByteArray)).size ≤ 20000 := by
  have hbs : l.body.data.toList.length ≤ 1024 := by rw [← size_list]; exact hb
  rw [size_list]
  unfold wn
  cases l.blank <;> simp <;> omega

/-- the built lines, as 'dedent' reads them -/
theorem built_cells {w wr : World} {P : List UInt8} {L : Nat → Ln} {len g1 g2 ko k : Nat} (h : BuildIn w wr P L len g1 g2 ko k) : Cells3 wr g1 ko (fun i => ⟨(tx P (L i)).toArray⟩) (fun i => es P (L i)) (fun i => (L i).line) := by
  have hat : ∀ i, i < ko → (lines P L ko)[i]? = some (lnOf P (L i)) := fun i hi => by simp [lines, hi]
  refine ⟨fun i hi => ?_, fun i hi => ?_, fun i hi => ?_⟩
  · exact (h.out.cellAt _ (by omega)).trans (fl_at _ i _ (hat i hi)).1
  · exact (h.out.cellAt _ (by omega)).trans (fl_at _ i _ (hat i hi)).2.1
  · exact (h.out.cellAt _ (by omega)).trans (fl_at _ i _ (hat i hi)).2.2
theorem want_cells {w wr : World} {P : List UInt8} {L : Nat → Ln} {len g1 g2 ko k : Nat} (h : BuildIn w wr P L len g1 g2 ko k) : ∀ i, i < k → wr.cell? ⟨g2, i, none⟩ = some (.string ⟨(wn (L i)).toArray⟩) := by
  intro i hi
  rw [h.want.cellAt i (by omega)]
  simp [wants, hi]

set_option maxRecDepth 1000000 in
set_option maxHeartbeats 1600000 in
theorem strips_core (F : Interp) (a0 : Option Addr) (b0 o0 n0 c0 : Nat) (z : Nat → Int) (a1 : Option Addr) (b1 o1 n1 c1 : Nat) (L : Nat → Ln) (nL : Int) (w : World) (hF : F.answers w.tape)
    (h0 : n0 ≤ 1024) (h1 : n1 ≤ 1024) (v0 : PxView w a0 b0 o0 n0 z) (v1 : LsView w a1 b1 o1 n1 L) (hbd : ∀ i, i < n1 → (L i).body.size ≤ 9223372036854775807) :
    Calls Ybaf.prog 3 #[.slice a0 n0 c0, .slice a1 n1 c1, .int .i64 nL] w fun e w' => e = .returned (.bool true) ∧ Below w.heap.size w w' := by
  have HF := toHid hF
  have V0 := toHid v0
  have V1 := toHid v1
  have HB := toHid hbd
  clear hF v0 v1 hbd
  go_enter Ybaf.func3, Ybaf.ntmps3
  go_wp2_with fail
  refine (big_any a1 b1 o1 n1 c1 L w h1 V1.out HB.out).mono ?_
  rintro e w1 ⟨r, rfl, hsm, hb1⟩
  have hb1' := toHid hb1
  clear hb1
  cases r with
  | true =>
    go_wp2_with fail
    go_ret
    exact ⟨rfl, hb1'.out⟩
  | false =>
    have hsm' := toHid (hsm rfl)
    clear hsm
    go_wp2_with fail
    have u0 := V0.out.later hb1'.out
    refine (prefix_any a0 b0 o0 n0 c0 z w1 h0 u0.addr u0.bd u0.cell).mono ?_
    clear u0
    rintro e w2 ⟨S, rfl, hS, hb2⟩
    have hSs : S.size ≤ 4096 := by
      rw [size_list, hS]
      have := spc_length (codes z n0)
      rw [codes_length] at this
      omega
    have hS' := toHid hS
    have hb2' := toHid (hb1'.out.trans (hb2.mono hb1'.out.size))
    clear hS hb2 hb1'
    go_wp2_with fail
    refine (build_any a1 b1 o1 n1 c1 L S w2 h1 (V1.out.later hb2'.out) hsm'.out hSs).mono ?_
    rintro e w3 ⟨g1, g2, rfl, hI⟩
    have hI' := toHid hI
    have hb3' := toHid (hb2'.out.trans (hI.below.mono hb2'.out.size))
    clear hI hb2'
    go_wp2_with fail
    refine (dedent_core F g1 n1 n1 _ _ _ S (codes z n0) nL (fun i => wn (L i)) n1 w3 (by rw [hb3'.out.tape]; exact HF.out) (by omega) hS'.out hSs (built_cells hI'.out) (Nat.le_refl _) (fun i hi => by have := fine_of S.data.toList (L i) (hsm'.out i hi) (by rw [← size_list]; exact hSs); rw [hS'.out] at this ⊢; exact this) (fun h => absurd h (Nat.lt_irrefl _))).mono ?_
    rintro e w4 ⟨hb4, ⟨_, rfl⟩ | ⟨hlt, _⟩⟩
    · have hJ := join_any g2 n1 n1 (fun i => ⟨(wn (L i)).toArray⟩) (fun i => wn (L i)) w4 h1 (fun i hi => cell_keep hb4 (want_cells hI'.out i hi)) (fun i hi => rfl) (fun i hi => wn_size (L i) (hsm'.out i hi))
      have hJ' := toHid hJ
      have hb4' := toHid (hb3'.out.trans (hb4.mono hb3'.out.size))
      clear hJ hb4 hI' hb3'
      generalize (Lib.join ((List.range n1).map fun i => wn (L i)) [10]).toArray = res at *
      go_wp2_with (go_at_call 9; refine hJ'.out.mono ?_; rintro e w5 ⟨rfl, rfl⟩)
      go_ret
      exact ⟨rfl, hb4'.out⟩
    · exact absurd hlt (Nat.lt_irrefl _)

end Go.Proofs.YbulkajgkFmt
