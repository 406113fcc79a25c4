/-
  A PROOF OF 'Rows.LawS1750AZeroSaid': the walk by the contract of 'runs'; the row's step after the given shell.
-/
import Derived.Test.YbulkajfiRows
import Derived.WalkKit
import Derived.ProofKit
import Derived.OpenShut
import Derived.ShutString
import Derived.Test.YbulkajfiRuns
namespace Go.Proofs.Ybulkajfi.lawS1750AZero
open Go.ChangeShapes Go.WideShapes Go.ChangeAt Go.RowKit
open Go.ChangeMaps (open_string shut_string)
set_option linter.unusedVariables false      -- a walk need not use every 'w<i>' (that an integer argument fits its kind)

theorem own : ownKnob Yba.prog.godebug = none := by kernel_rfl

/-! ### STEP 1: THE WALK -/
theorem one_run (st fr at' : Nat → Int → Int) (x y : Int) (h : 0 < x) : backW st fr at' 0 x y = [(0, wrap64 (0 - wrap64 (x - y)), wrap64 (x - 0))] := by
  unfold backW runW; rw [if_pos h]
theorem no_run (st fr at' : Nat → Int → Int) (x y : Int) (h : ¬ 0 < x) : backW st fr at' 0 x y = [] := by
  unfold backW runW; rw [if_neg h]

theorem runs0 (g : Value) (w : World) (x y : Int) :
    Calls Yba.prog 7 #[g, .int .i64 0, .int .i64 x, .int .i64 y] w fun e w' =>
      ∃ v, e = .returned v ∧ w'.ownsRow w.heap.size 31 3 v (backW (fun _ _ => 0) (fun _ _ => 0) (fun _ _ => 0) 0 x y).length (flat (backW (fun _ _ => 0) (fun _ _ => 0) (fun _ _ => 0) 0 x y).reverse) ∧ Below w.heap.size w w' :=
  runs_any g (fun _ _ => 0) (fun _ _ => 0) (fun _ _ => 0) (fun d _ _ => d = 0) w (fun d x y h => by omega) (fun d x y h => by omega) (fun d x y h => by omega) 0 (by omega) x y rfl

theorem wrap_self (x : Int) (w : (Lit.int .i64 x).wf = true) : wrap64 x = x := by
  have := bounds_i64 w
  unfold wrap64
  omega

theorem runs_pos (g : Value) (w : World) (x y : Int) (h : 0 < x) :
    Calls Yba.prog 7 #[g, .int .i64 0, .int .i64 x, .int .i64 y] w fun e w' =>
      ∃ b c, e = .returned (.slice (some ⟨b, 0, none⟩) 1 c) ∧ w'.cell? ⟨b, 0, none⟩ = some (.int .i64 0) ∧ w'.cell? ⟨b, 1, none⟩ = some (.int .i64 (wrap64 (-wrap64 (x - y)))) ∧ w'.cell? ⟨b, 2, none⟩ = some (.int .i64 (wrap64 x)) ∧ Below w.heap.size w w' := by
  refine (runs0 g w x y).mono ?_
  rintro e w' ⟨v, rfl, hown, hbel⟩
  rw [one_run _ _ _ _ _ h, Int.zero_sub, Int.sub_zero] at hown
  have hown2 := hown
  obtain ⟨_, ⟨_, hv⟩ | ⟨b, c, cur, rfl, _⟩⟩ := hown
  · simp at hv
  · exact ⟨b, c, rfl, hown2.cellAt 0 (by simp), hown2.cellAt 1 (by simp), hown2.cellAt 2 (by simp), hbel⟩

theorem runs_neg (g : Value) (w : World) (x y : Int) (h : ¬ 0 < x) :
    Calls Yba.prog 7 #[g, .int .i64 0, .int .i64 x, .int .i64 y] w fun e w' => ∃ a c, e = .returned (.slice a 0 c) ∧ Below w.heap.size w w' := by
  refine (runs0 g w x y).mono ?_
  rintro e w' ⟨v, rfl, hown, hbel⟩
  rw [no_run _ _ _ _ _ h] at hown
  obtain ⟨_, ⟨rfl, hv⟩ | ⟨b, c, cur, rfl, _⟩⟩ := hown
  · exact ⟨_, _, rfl, hbel⟩
  · exact ⟨_, _, rfl, hbel⟩

theorem same_back (x y : Int) : (wrap64 (-wrap64 (x - y)) == wrap64 (-wrap64 (x - y))) = true := by simp

set_option maxHeartbeats 400000 in
theorem walk (a0 : Int) (a1 : Int) (w0 : (Lit.int .i64 a0).wf = true) (w1 : (Lit.int .i64 a1).wf = true) (w : World) :
    Calls Yba.prog 4 #[.int .i64 a0, .int .i64 a1] w fun e w' => e = .returned (.bool true) ∧ Below w.heap.size w w' := by
  have hw := wrap_self a0 w0
  clear w0 w1
  by_cases hx : 0 < a0
  · go_enter Yba.func4, Yba.ntmps4
    go_wp2_with (go_at_call 7; refine (runs_pos _ _ a0 a1 hx).mono ?_; rintro e w' ⟨b, c, rfl, k0, k1, k2, hbel⟩)
    go_ret
    exact ⟨rfl, ((Below.refl _ _).alloc (Nat.le_refl _) _).trans (hbel.mono (by simp))⟩
  · go_enter Yba.func4, Yba.ntmps4
    go_wp2_with (go_at_call 7; refine (runs_neg _ _ a0 a1 hx).mono ?_; rintro e w' ⟨a, c, rfl, hbel⟩)
    go_ret
    exact ⟨rfl, ((Below.refl _ _).alloc (Nat.le_refl _) _).trans (hbel.mono (by simp))⟩

/-! ### THE ROW's STEP: WRITTEN OUT: LEAVE IT -/
set_option maxRecDepth 100000 in
theorem lifted (os : Os) (started : os.Started) (H : Type) (enc : TypeId × Value → H) :
    ReturnsInHanded {} Yba.checked os 4 .any (Rows.lawS1750AZeroSpec.pre6 enc Yba.prog Yba.f4 Rows.lawS1750AZeroRow.domain false) (Rows.lawS1750AZeroSpec.post enc Yba.prog Yba.f4 false true false false) := by
  refine returnsInHanded_of_change (C := Yba.checked) own started (by kernel_rfl) Yba.func4
    (ChangeSpec.witness6 (enc := enc) (C := Yba.checked) false ⟨#[], #[.int .i64 0, .int .i64 0], []⟩ 8 (by kernel_rfl) (by kernel_rfl) (by kernel_rfl) (by kernel_rfl)) ?_
  intro W base args ds gs before hval0 hW hcnd _
  have hval : ∀ (j : Nat) t v, Yba.f4.params[j]? = some t → args[j]? = some v → Value.okWide Yba.prog W .any base t v := hval0
  have hW' := hW
  obtain ⟨p, q, hA0, hV, rfl, hfz, hnd⟩ := hW
  have hA : DataW.TrodAll enc Yba.prog W 0 (fun _ => true) true Yba.f4.params.toList args.toList ds p := hA0
  rw [Yba.params4] at hA hval
  obtain ⟨v0, vs0, d0, ds0, p0, q0, hargs, rfl, rfl, h0, r0⟩ := trodAll_cons hA
  obtain ⟨v1, vs1, d1, ds1, p1, q1, rfl, rfl, rfl, h1, r1⟩ := trodAll_cons r0
  obtain ⟨rfl, rfl, rfl⟩ := trodAll_nil r1
  obtain rfl : args = #[v0, v1] := by cases args; simp_all
  obtain ⟨rfl, rfl⟩ := trodVars_none hV
  obtain ⟨a0, rfl, rfl, rfl, w0⟩ := open_int Yba.underlying3 (hval 0 3 v0 rfl rfl) h0
  obtain ⟨a1, rfl, rfl, rfl, w1⟩ := open_int Yba.underlying3 (hval 1 3 v1 rfl rfl) h1
  clear hA0 hval0
  simp only [List.append_nil] at hW'
  refine (walk a0 a1 w0 w1 W).mono fun e W' ⟨he, bel⟩ => ?_
  subst he
  exact ⟨_, rfl, _, _, _, [], _, [], hW', trodAll_mk1 (shut_bool Yba.underlying4 _), (trodAll_cons_mk (shut_int Yba.underlying3 w0) (trodAll_cons_mk (shut_int Yba.underlying3 w1) trodAll_mk0)), rfl, bel.frame _, fun h => by cases h⟩

theorem over : Rows.lawS1750AZeroRow.holds Yba.pinned (OpenSpec.ofChange Rows.lawS1750AZeroSpec) :=
  OpenClaim.holds_of_wide 4 Yba.f4 rfl rfl rfl rfl rfl rfl rfl ⟨rfl, rfl, rfl, rfl, rfl⟩ rfl rfl rfl rfl rfl (by kernel_rfl) Yba.func4 (by kernel_rfl)
    (of_decide_eq_true (by kernel_rfl)) (by unfold Func.isWrapper; first | (rw [if_pos (by decide +kernel)]; kernel_rfl) | (rw [if_neg (by decide +kernel)]; exact ⟨rfl, rfl⟩))
    (fun os started H enc _ => lifted os started H enc)

/-- THE STATEMENT -/
theorem proved : Rows.LawS1750AZeroSaid :=
  over
end Go.Proofs.Ybulkajfi.lawS1750AZero
