/-
  THE WALK OF 'syntaxErrorf' (12): a new *SyntaxError at the line; fmt's text is any text. FOR EVERY F.
-/
import Derived.Test.YbulkajgkFmtProg
import Derived.Stop.CallBack
import Derived.WalkKit
import Derived.WalkSpells
import Derived.WalkSmall
import Derived.Below
namespace Go.Proofs.YbulkajgkFmt
open Go.RowKit Go.Extern.Stop Go.Stop Go.Extern
set_option linter.unusedVariables false

theorem toHid {p : Prop} (h : p) : Hid p := h

theorem Ybaf.call22 (args : Array Value) (w : World) : (callFunc 22 args).run Ybaf.prog w = (FmtCalls.sprintf #[9, 64] #[9] args).run Ybaf.prog w :=
  run_callFunc_next Ybaf.func22 (by kernel_rfl) (by kernel_rfl) (by kernel_rfl) args w
theorem Ybaf.guard (name : String) (w : World) : (FmtStop.guard name).run Ybaf.prog w = .ok () w := by kernel_rfl
theorem Ybaf.nextTurns : Extern.next FmtCalls.turnsRow = some (FmtCalls.begun #[] #[]) := by kernel_rfl
theorem Ybaf.nextReturned : Extern.next FmtCalls.returnedRow = some (FmtCalls.returned #[] #[]) := by kernel_rfl

set_option maxHeartbeats 800000 in
theorem errf_any (F : Interp) (line : Int) (fm : ByteArray) (w : World) (hF : F.answers w.tape) (hp : FmtStop.printed? fm 0 = some []) :
    Calls Ybaf.prog 12 #[.int .i64 line, .string fm, .slice none 0 0] w fun e w' => ∃ b, e = .returned (.iface 38 (.pointer (some ⟨b, 0, none⟩))) ∧ w'.cell? ⟨b, 0, none⟩ = some (.int .i64 line) ∧ Below w.heap.size w w' := by
  have hF' := answers_open hF
  have h22 := Ybaf.call22
  have hg := Ybaf.guard
  go_enter Ybaf.func12, Ybaf.ntmps12
  go_wp2
  apply rows_value Ybaf.nextTurns
  case hr =>
    go_simp
    exact ⟨rfl, rfl⟩
  case h =>
    go_wp2
    go_ret
    exact ⟨w.heap.size, rfl, by simp, ((Below.refl _ w).alloc (Nat.le_refl _) _).drew⟩

/-- the two formats hold no verb -/
theorem fmt_close : FmtStop.printed? ⟨([116, 104, 101, 32, 99, 108, 111, 115, 105, 110, 103, 32, 34, 34, 34, 32, 111, 102, 32, 97, 32, 109, 117, 108, 116, 105, 45, 108, 105, 110, 101, 32, 115, 116, 114, 105, 110, 103, 32, 115, 116, 97, 110].append [100, 115, 32, 111, 110, 32, 97, 32, 108, 105, 110, 101, 32, 111, 102, 32, 105, 116, 115, 32, 111, 119, 110, 44, 32, 97, 102, 116, 101, 114, 32, 115, 112, 97, 99, 101, 115, 32, 97, 108, 111, 110, 101]).toArray⟩ 0 = some [] := by kernel_rfl
theorem fmt_line : FmtStop.printed? ⟨([97, 32, 108, 105, 110, 101, 32, 111, 102, 32, 97, 32, 109, 117, 108, 116, 105, 45, 108, 105, 110, 101, 32, 115, 116, 114, 105, 110, 103, 32, 109, 117, 115, 116, 32, 115, 116, 97, 114, 116, 32, 119].append [105, 116, 104, 32, 116, 104, 101, 32, 115, 112, 97, 99, 101, 115, 32, 105, 116, 115, 32, 99, 108, 111, 115, 105, 110, 103, 32, 108, 105, 110, 101, 32, 115, 116, 97, 114, 116, 115, 32, 119, 105, 116, 104]).toArray⟩ 0 = some [] := by kernel_rfl

end Go.Proofs.YbulkajgkFmt
