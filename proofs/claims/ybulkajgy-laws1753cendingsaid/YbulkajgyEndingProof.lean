/-
  A PROOF OF 'Rows.LawS1753CEndingSaid'.
-/
import Derived.Test.YbulkajgyRows
import Derived.WalkKit
import Derived.ProofKit
import Derived.OpenShut
import Derived.ShutString
import Derived.WalkSpells
import Derived.Below
namespace Go.Proofs.Ybulkajgy.lawS1753CEnding
open Go.ChangeShapes Go.WideShapes Go.ChangeAt Go.RowKit
open Go.ChangeMaps (open_string shut_string)
set_option linter.unusedVariables false

theorem own : ownKnob Yba.prog.godebug = none := by kernel_rfl

def isStart (k : ByteArray) : Bool := k.toList == [115, 116, 97, 114, 116]
def isRequeue (k : ByteArray) : Bool := k.toList == [114, 101, 113, 117, 101, 117, 101]
def isSettle (k : ByteArray) : Bool := k.toList == [115, 101, 116, 116, 108, 101]
def isCancel (k : ByteArray) : Bool := k.toList == [99, 97, 110, 99, 101, 108]
def isEnd (k : ByteArray) : Bool := k.toList == [101, 110, 100]
def isResolve (k : ByteArray) : Bool := k.toList == [114, 101, 115, 111, 108, 118, 101]
/-- what both functions answer: a text and a bool -/
def text (k s : ByteArray) : ByteArray := if isStart k || isRequeue k || isSettle k || isCancel k then ⟨#[114, 117, 110, 110, 105, 110, 103]⟩ else if isEnd k then s else if isResolve k then ⟨#[114, 101, 115, 111, 108, 118, 101, 100]⟩ else ⟨#[]⟩
def flag (k : ByteArray) : Bool := isStart k || isRequeue k || isSettle k || isCancel k || isEnd k || isResolve k

/-- every answer, by the six tests as the walk spells them -/
theorem ways (k s : ByteArray) (C : Prop)
    (c1 : (k.toList == [115, 116, 97, 114, 116]) = true → text k s = ⟨#[114, 117, 110, 110, 105, 110, 103]⟩ → flag k = true → C)
    (c2 : (k.toList == [115, 116, 97, 114, 116]) = false → (k.toList == [114, 101, 113, 117, 101, 117, 101]) = true → text k s = ⟨#[114, 117, 110, 110, 105, 110, 103]⟩ → flag k = true → C)
    (c3 : (k.toList == [115, 116, 97, 114, 116]) = false → (k.toList == [114, 101, 113, 117, 101, 117, 101]) = false → (k.toList == [115, 101, 116, 116, 108, 101]) = true → text k s = ⟨#[114, 117, 110, 110, 105, 110, 103]⟩ → flag k = true → C)
    (c4 : (k.toList == [115, 116, 97, 114, 116]) = false → (k.toList == [114, 101, 113, 117, 101, 117, 101]) = false → (k.toList == [115, 101, 116, 116, 108, 101]) = false → (k.toList == [99, 97, 110, 99, 101, 108]) = true → text k s = ⟨#[114, 117, 110, 110, 105, 110, 103]⟩ → flag k = true → C)
    (c5 : (k.toList == [115, 116, 97, 114, 116]) = false → (k.toList == [114, 101, 113, 117, 101, 117, 101]) = false → (k.toList == [115, 101, 116, 116, 108, 101]) = false → (k.toList == [99, 97, 110, 99, 101, 108]) = false → (k.toList == [101, 110, 100]) = true → text k s = s → flag k = true → C)
    (c6 : (k.toList == [115, 116, 97, 114, 116]) = false → (k.toList == [114, 101, 113, 117, 101, 117, 101]) = false → (k.toList == [115, 101, 116, 116, 108, 101]) = false → (k.toList == [99, 97, 110, 99, 101, 108]) = false → (k.toList == [101, 110, 100]) = false → (k.toList == [114, 101, 115, 111, 108, 118, 101]) = true → text k s = ⟨#[114, 101, 115, 111, 108, 118, 101, 100]⟩ → flag k = true → C)
    (c7 : (k.toList == [115, 116, 97, 114, 116]) = false → (k.toList == [114, 101, 113, 117, 101, 117, 101]) = false → (k.toList == [115, 101, 116, 116, 108, 101]) = false → (k.toList == [99, 97, 110, 99, 101, 108]) = false → (k.toList == [101, 110, 100]) = false → (k.toList == [114, 101, 115, 111, 108, 118, 101]) = false → text k s = ⟨#[]⟩ → flag k = false → C) : C := by
  have t : ∀ b1 b2 b3 b4 b5 b6, (k.toList == [115, 116, 97, 114, 116]) = b1 → (k.toList == [114, 101, 113, 117, 101, 117, 101]) = b2 → (k.toList == [115, 101, 116, 116, 108, 101]) = b3 → (k.toList == [99, 97, 110, 99, 101, 108]) = b4 → (k.toList == [101, 110, 100]) = b5 → (k.toList == [114, 101, 115, 111, 108, 118, 101]) = b6 →
      text k s = (if b1 || b2 || b3 || b4 then ⟨#[114, 117, 110, 110, 105, 110, 103]⟩ else if b5 then s else if b6 then ⟨#[114, 101, 115, 111, 108, 118, 101, 100]⟩ else ⟨#[]⟩) ∧ flag k = (b1 || b2 || b3 || b4 || b5 || b6) := by
    intro b1 b2 b3 b4 b5 b6 h1 h2 h3 h4 h5 h6
    unfold text flag isStart isRequeue isSettle isCancel isEnd isResolve
    rw [h1, h2, h3, h4, h5, h6]
    exact ⟨rfl, rfl⟩
  have T := t _ _ _ _ _ _ rfl rfl rfl rfl rfl rfl
  cases h1 : (k.toList == [115, 116, 97, 114, 116]) with
  | true => rw [h1] at T; exact c1 h1 (by simpa using T.1) (by simpa using T.2)
  | false =>
    cases h2 : (k.toList == [114, 101, 113, 117, 101, 117, 101]) with
    | true => rw [h1, h2] at T; exact c2 h1 h2 (by simpa using T.1) (by simpa using T.2)
    | false =>
      cases h3 : (k.toList == [115, 101, 116, 116, 108, 101]) with
      | true => rw [h1, h2, h3] at T; exact c3 h1 h2 h3 (by simpa using T.1) (by simpa using T.2)
      | false =>
        cases h4 : (k.toList == [99, 97, 110, 99, 101, 108]) with
        | true => rw [h1, h2, h3, h4] at T; exact c4 h1 h2 h3 h4 (by simpa using T.1) (by simpa using T.2)
        | false =>
          cases h5 : (k.toList == [101, 110, 100]) with
          | true => rw [h1, h2, h3, h4, h5] at T; exact c5 h1 h2 h3 h4 h5 (by simpa using T.1) (by simpa using T.2)
          | false =>
            cases h6 : (k.toList == [114, 101, 115, 111, 108, 118, 101]) with
            | true => rw [h1, h2, h3, h4, h5, h6] at T; exact c6 h1 h2 h3 h4 h5 h6 (by simpa using T.1) (by simpa using T.2)
            | false => rw [h1, h2, h3, h4, h5, h6] at T; exact c7 h1 h2 h3 h4 h5 h6 (by simpa using T.1) (by simpa using T.2)

theorem ret_both {a b : ByteArray} {c d : Bool} (h : a = b) (h' : c = d) : Ending.returned (.tuple #[.string b, .bool d]) = .returned (.tuple #[.string a, .bool c]) := by rw [h, h']

set_option maxHeartbeats 800000 in
theorem model_any (k s : ByteArray) (w : World) :
    Calls Yba.prog 5 #[.string k, .string s] w fun e w' => e = .returned (.tuple #[.string (text k s), .bool (flag k)]) ∧ w = w' := by
  apply ways k s
  all_goals intros
  all_goals
    rename_i ht hf
    have HT : Hid _ := ht
    have HF : Hid _ := hf
    clear ht hf
    go_enter Yba.func5, Yba.ntmps5
    go_wp2
    go_ret2
    exact ⟨ret_both HT.out HF.out, rfl⟩

set_option maxHeartbeats 800000 in
theorem ending_any (k s : ByteArray) (x1 x2 x3 x4 x5 x7 x8 x9 x10 x11 x12 x13 x14 x15 : Value) (w : World) :
    Calls Yba.prog 4 #[.agg #[.string k, x1, x2, x3, x4, x5, .string s, x7, x8, x9, x10, x11, x12, x13, x14, x15]] w fun e w' => e = .returned (.tuple #[.string (text k s), .bool (flag k)]) ∧ Below w.heap.size w w' := by
  apply ways k s
  all_goals intros
  all_goals
    rename_i ht hf
    have HT : Hid _ := ht
    have HF : Hid _ := hf
    clear ht hf
    go_enter Yba.func4, Yba.ntmps4
    go_wp2
    go_ret2
    exact ⟨ret_both HT.out HF.out, (Below.refl _ _).alloc (Nat.le_refl _) _⟩

theorem same_text (t : ByteArray) : (t.toList == t.toList) = true := by simp

/-- the eight words -/
theorem word (w : World) (i : Nat) (hi : i < 8) : ∃ k, (w.alloc (.cells #[.string ⟨#[115, 116, 97, 114, 116]⟩, .string ⟨#[114, 101, 113, 117, 101, 117, 101]⟩, .string ⟨#[115, 101, 116, 116, 108, 101]⟩, .string ⟨#[99, 97, 110, 99, 101, 108]⟩, .string ⟨#[101, 110, 100]⟩, .string ⟨#[114, 101, 115, 111, 108, 118, 101]⟩, .string ⟨#[100, 111, 110, 101]⟩, .string ⟨#[114, 101, 116, 114, 121]⟩] 22)).cell? ⟨w.heap.size, i, none⟩ = some (.string k) := by
  match i, hi with
  | 0, _ => exact ⟨_, by simp; rfl⟩
  | 1, _ => exact ⟨_, by simp; rfl⟩
  | 2, _ => exact ⟨_, by simp; rfl⟩
  | 3, _ => exact ⟨_, by simp; rfl⟩
  | 4, _ => exact ⟨_, by simp; rfl⟩
  | 5, _ => exact ⟨_, by simp; rfl⟩
  | 6, _ => exact ⟨_, by simp; rfl⟩
  | 7, _ => exact ⟨_, by simp; rfl⟩
  | i + 8, h => omega

set_option maxHeartbeats 800000 in
theorem walk (a0 : Int) (a1 : ByteArray) (a2 : ByteArray) (a3 : ByteArray) (a4 : Int) (a5 : Int) (w0 : (Lit.int .u8 a0).wf = true) (w : World) :
    Calls Yba.prog 3 #[.int .u8 a0, .string a1, .string a2, .string a3, .int .i64 a4, .int .i64 a5] w fun e w' => e = .returned (.bool true) ∧ Below w.heap.size w w' := by
  obtain ⟨b0, b1⟩ := bounds_u8 w0
  obtain ⟨i, hi⟩ : ∃ i : Nat, a0 % 10 = (i : Int) := ⟨(a0 % 10).toNat, by omega⟩
  by_cases h8 : i < 8
  · obtain ⟨k, hk⟩ := word w i h8
    have h8z : (i : Int) < 8 := by omega
    clear w0
    go_enter Yba.func3, Yba.ntmps3
    go_wp2_with (first
      | (go_at_call 4; refine (ending_any k a2 _ _ _ _ _ _ _ _ _ _ _ _ _ _ _).mono ?_; rintro e w1 ⟨rfl, hb⟩)
      | (go_at_call 5; refine (model_any k a2 _).mono ?_; rintro e w2 ⟨rfl, rfl⟩))
    go_ret
    exact ⟨rfl, (((Below.refl _ _).alloc (Nat.le_refl _) _).alloc (by simp) _).trans (hb.mono (by simp; omega))⟩
  · have h8z : ¬ (i : Int) < 8 := by omega
    clear w0
    go_enter Yba.func3, Yba.ntmps3
    go_wp2_with (first
      | (go_at_call 4; refine (ending_any a1 a2 _ _ _ _ _ _ _ _ _ _ _ _ _ _ _).mono ?_; rintro e w1 ⟨rfl, hb⟩)
      | (go_at_call 5; refine (model_any a1 a2 _).mono ?_; rintro e w2 ⟨rfl, rfl⟩))
    go_ret
    exact ⟨rfl, (((Below.refl _ _).alloc (Nat.le_refl _) _).alloc (by simp) _).trans (hb.mono (by simp; omega))⟩

set_option maxRecDepth 100000 in
theorem lifted (os : Os) (started : os.Started) (H : Type) (enc : TypeId × Value → H) :
    ReturnsInHanded {} Yba.checked os 3 .any (Rows.lawS1753CEndingSpec.pre6 enc Yba.prog Yba.f3 Rows.lawS1753CEndingRow.domain false) (Rows.lawS1753CEndingSpec.post enc Yba.prog Yba.f3 false true false false) := by
  refine returnsInHanded_of_change (C := Yba.checked) own started (by kernel_rfl) Yba.func3
    (ChangeSpec.witness6 (enc := enc) (C := Yba.checked) false ⟨#[], #[.int .u8 0, .string ByteArray.empty, .string ByteArray.empty, .string ByteArray.empty, .int .i64 0, .int .i64 0], []⟩ 8 (by kernel_rfl) (by kernel_rfl) (by kernel_rfl) (by kernel_rfl)) ?_
  intro W base args ds gs before hval0 hW hcnd _
  have hval : ∀ (j : Nat) t v, Yba.f3.params[j]? = some t → args[j]? = some v → Value.okWide Yba.prog W .any base t v := hval0
  have hW' := hW
  obtain ⟨p, q, hA0, hV, rfl, hfz, hnd⟩ := hW
  have hA : DataW.TrodAll enc Yba.prog W 0 (fun _ => true) true Yba.f3.params.toList args.toList ds p := hA0
  rw [Yba.params3] at hA hval
  obtain ⟨v0, vs0, d0, ds0, p0, q0, hargs, rfl, rfl, h0, r0⟩ := trodAll_cons hA
  obtain ⟨v1, vs1, d1, ds1, p1, q1, rfl, rfl, rfl, h1, r1⟩ := trodAll_cons r0
  obtain ⟨v2, vs2, d2, ds2, p2, q2, rfl, rfl, rfl, h2, r2⟩ := trodAll_cons r1
  obtain ⟨v3, vs3, d3, ds3, p3, q3, rfl, rfl, rfl, h3, r3⟩ := trodAll_cons r2
  obtain ⟨v4, vs4, d4, ds4, p4, q4, rfl, rfl, rfl, h4, r4⟩ := trodAll_cons r3
  obtain ⟨v5, vs5, d5, ds5, p5, q5, rfl, rfl, rfl, h5, r5⟩ := trodAll_cons r4
  obtain ⟨rfl, rfl, rfl⟩ := trodAll_nil r5
  obtain rfl : args = #[v0, v1, v2, v3, v4, v5] := by cases args; simp_all
  obtain ⟨rfl, rfl⟩ := trodVars_none hV
  obtain ⟨a0, rfl, rfl, rfl, w0⟩ := open_int Yba.underlying5 (hval 0 5 v0 rfl rfl) h0
  obtain ⟨a1, rfl, rfl, rfl, w1⟩ := open_string Yba.underlying9 (hval 1 9 v1 rfl rfl) h1
  obtain ⟨a2, rfl, rfl, rfl, w2⟩ := open_string Yba.underlying9 (hval 2 9 v2 rfl rfl) h2
  obtain ⟨a3, rfl, rfl, rfl, w3⟩ := open_string Yba.underlying9 (hval 3 9 v3 rfl rfl) h3
  obtain ⟨a4, rfl, rfl, rfl, w4⟩ := open_int Yba.underlying3 (hval 4 3 v4 rfl rfl) h4
  obtain ⟨a5, rfl, rfl, rfl, w5⟩ := open_int Yba.underlying2 (hval 5 2 v5 rfl rfl) h5
  clear hA0 hval0
  simp only [List.append_nil] at hW'
  refine (walk a0 a1 a2 a3 a4 a5 w0 W).mono fun e W' ⟨he, bel⟩ => ?_
  subst he
  exact ⟨_, rfl, _, _, _, [], _, [], hW', trodAll_mk1 (shut_bool Yba.underlying4 _), (trodAll_cons_mk (shut_int Yba.underlying5 w0) (trodAll_cons_mk (shut_string Yba.underlying9 w1) (trodAll_cons_mk (shut_string Yba.underlying9 w2) (trodAll_cons_mk (shut_string Yba.underlying9 w3) (trodAll_cons_mk (shut_int Yba.underlying3 w4) (trodAll_cons_mk (shut_int Yba.underlying2 w5) trodAll_mk0)))))), rfl, bel.frame _, fun h => by cases h⟩

theorem over : Rows.lawS1753CEndingRow.holds Yba.pinned (OpenSpec.ofChange Rows.lawS1753CEndingSpec) :=
  OpenClaim.holds_of_wide 3 Yba.f3 rfl rfl rfl rfl rfl rfl rfl ⟨rfl, rfl, rfl, rfl, rfl⟩ rfl rfl rfl rfl rfl (by kernel_rfl) Yba.func3 (by kernel_rfl)
    (of_decide_eq_true (by kernel_rfl)) (by unfold Func.isWrapper; first | (rw [if_pos (by decide +kernel)]; kernel_rfl) | (rw [if_neg (by decide +kernel)]; exact ⟨rfl, rfl⟩))
    (fun os started H enc _ => lifted os started H enc)

/-- THE STATEMENT -/
theorem proved : Rows.LawS1753CEndingSaid :=
  over
end Go.Proofs.Ybulkajgy.lawS1753CEnding
