/-
  THE LIBRARY's CONTRACTS OF strings.Join AND strings.Repeat AT THIS DUMP, in plain words, written by the shelf's own tools for this program.
-/
import Derived.Shelf.Strings.OnBuilder
import Derived.Shelf.Strings.Repeat
import Derived.Test.YbulkajgkFmtProg
namespace Go.Proofs
open Go.Shelf
def Ybaf.lays156_ren : Go.Shelf.Ren := ⟨fun | 156 => 14 | 165 => 16 | 166 => 17 | 169 => 19 | 240 => 26 | 241 => 27 | 276 => 29 | 277 => 30 | n => n, fun | 31 => 27 | 9 => 9 | 3 => 3 | 4 => 4 | 0 => 0 | 20 => 20 | 72 => 56 | 76 => 58 | 70 => 54 | 37 => 22 | 75 => 31 | 127 => 72 | 164 => 74 | 5 => 5 | 80 => 61 | n => n, fun | n => n⟩
theorem Ybaf.lays156 : Go.Proofs.Lays.n156 Ybaf.prog Ybaf.lays156_ren := {
  mixed := by kernel_rfl
  f156 := Ybaf.func14.trans (congrArg some (by kernel_rfl))
  f165 := Ybaf.func16.trans (congrArg some (by kernel_rfl))
  f166 := Ybaf.func17.trans (congrArg some (by kernel_rfl))
  f169 := Ybaf.func19.trans (congrArg some (by kernel_rfl))
  f240 := Ybaf.func26.trans (congrArg some (by kernel_rfl))
  f241 := Ybaf.func27.trans (congrArg some (by kernel_rfl))
  f276 := Ybaf.func29.trans (congrArg some (by kernel_rfl))
  f277 := Ybaf.func30.trans (congrArg some (by kernel_rfl))
  t0 := Ybaf.underlying0
  a0 := Ybaf.isAgg0
  z0 := Ybaf.sizeOf0
  v0 := Ybaf.zeroValue0
  t3 := Ybaf.underlying3
  a3 := Ybaf.isAgg3
  z3 := Ybaf.sizeOf3
  v3 := Ybaf.zeroValue3
  t4 := Ybaf.underlying4
  a4 := Ybaf.isAgg4
  z4 := Ybaf.sizeOf4
  v4 := Ybaf.zeroValue4
  t9 := Ybaf.underlying9
  a9 := Ybaf.isAgg9
  z9 := Ybaf.sizeOf9
  v9 := Ybaf.zeroValue9
  t20 := Ybaf.underlying20
  a20 := Ybaf.isAgg20
  z20 := Ybaf.sizeOf20
  v20 := Ybaf.zeroValue20
  t31 := Ybaf.underlying27
  a31 := Ybaf.isAgg27
  z31 := Ybaf.sizeOf27
  v31 := Ybaf.zeroValue27
  t37 := Ybaf.underlying22
  a37 := Ybaf.isAgg22
  z37 := Ybaf.sizeOf22
  v37 := Ybaf.zeroValue22
  t70 := Ybaf.underlying54
  a70 := Ybaf.isAgg54
  z70 := Ybaf.sizeOf54
  v70 := Ybaf.zeroValue54
  t72 := Ybaf.underlying56
  a72 := Ybaf.isAgg56
  z72 := Ybaf.sizeOf56
  v72 := Ybaf.zeroValue56
  t75 := Ybaf.underlying31
  a75 := Ybaf.isAgg31
  z75 := Ybaf.sizeOf31
  v75 := Ybaf.zeroValue31
  t76 := Ybaf.underlying58
  a76 := Ybaf.isAgg58
  z76 := Ybaf.sizeOf58
  v76 := Ybaf.zeroValue58
  t127 := Ybaf.underlying72
  a127 := Ybaf.isAgg72
  z127 := Ybaf.sizeOf72
  v127 := Ybaf.zeroValue72
  t164 := Ybaf.underlying74
  a164 := Ybaf.isAgg74
  z164 := Ybaf.sizeOf74
  v164 := Ybaf.zeroValue74 }
theorem Ybaf.Builder_Extra_156 : Builder.Extra Ybaf.prog Ybaf.lays156_ren := {
  sizeBuilder := by kernel_rfl
  liesBuilder := by kernel_rfl
  t5 := Ybaf.underlying5
  a5 := Ybaf.isAgg5
  z5 := Ybaf.sizeOf5
  v5 := Ybaf.zeroValue5
  infoByte := by kernel_rfl
  cellsByte := by kernel_rfl
  sizeByte := by kernel_rfl
  neB5 := by decide }
open Go.RowKit in
/-- No element: the empty string; the world is as it was. (Whatever the slice's address and capacity: a nil slice too.) (LAID: no walk: one application.) -/
theorem Ybaf.strings_Join_none (a : Option Addr) (c : Nat) (sep : ByteArray) (w : World) :
    Calls Ybaf.prog 14 #[.slice a 0 c, .string sep] w fun e w' => e = .returned (.string ⟨#[]⟩) ∧ w' = w := Any.strings_Join_none Ybaf.lays156 Ybaf.Builder_Extra_156 a c sep w
open Go.RowKit in
/-- strings.Join, however many elements. -/
theorem Ybaf.strings_Join (bk o c : Nat) (xs : List ByteArray) (sep : ByteArray) (w : World) (hcells : ∀ (j : Nat) x, xs[j]? = some x → w.cell? ⟨bk, o + j, none⟩ = some (.string x)) (hbk : bk < w.heap.size) (hN : xs.length ≤ 140737488355328) (hcap : xs.length ≤ c) (hlen : (Lib.join (xs.map (·.data.toList)) sep.data.toList).length ≤ 140737488355328) :
    Calls Ybaf.prog 14 #[.slice (some ⟨bk, o, none⟩) xs.length c, .string sep] w fun e w' => e = .returned (.string ⟨(Lib.join (xs.map (·.data.toList)) sep.data.toList).toArray⟩) ∧ Below w.heap.size w w' := Any.strings_Join Ybaf.lays156 Ybaf.Builder_Extra_156 bk o c xs sep w hcells hbk hN hcap hlen
def Ybaf.lays105_ren : Go.Shelf.Ren := ⟨fun | 105 => 10 | 212 => 15 | 99 => 13 | 165 => 16 | 166 => 17 | 170 => 18 | 169 => 19 | 263 => 24 | 264 => 25 | 206 => 23 | 240 => 26 | 241 => 27 | 276 => 29 | 277 => 30 | n => n, fun | 9 => 9 | 3 => 3 | 4 => 4 | 20 => 20 | 0 => 0 | 46 => 51 | 109 => 52 | 5 => 5 | 72 => 56 | 76 => 58 | 51 => 66 | 146 => 67 | 53 => 69 | 148 => 70 | 70 => 54 | 37 => 22 | 75 => 31 | 127 => 72 | 164 => 74 | 80 => 61 | n => n, fun | n => n⟩
theorem Ybaf.lays105 : Go.Proofs.Lays.n105 Ybaf.prog Ybaf.lays105_ren := {
  mixed := by kernel_rfl
  f99 := Ybaf.func13.trans (congrArg some (by kernel_rfl))
  f105 := Ybaf.func10.trans (congrArg some (by kernel_rfl))
  f165 := Ybaf.func16.trans (congrArg some (by kernel_rfl))
  f166 := Ybaf.func17.trans (congrArg some (by kernel_rfl))
  f169 := Ybaf.func19.trans (congrArg some (by kernel_rfl))
  f170 := Ybaf.func18.trans (congrArg some (by kernel_rfl))
  f206 := Ybaf.func23.trans (congrArg some (by kernel_rfl))
  f212 := Ybaf.func15.trans (congrArg some (by kernel_rfl))
  f240 := Ybaf.func26.trans (congrArg some (by kernel_rfl))
  f241 := Ybaf.func27.trans (congrArg some (by kernel_rfl))
  f263 := Ybaf.func24.trans (congrArg some (by kernel_rfl))
  f264 := Ybaf.func25.trans (congrArg some (by kernel_rfl))
  f276 := Ybaf.func29.trans (congrArg some (by kernel_rfl))
  f277 := Ybaf.func30.trans (congrArg some (by kernel_rfl))
  t0 := Ybaf.underlying0
  a0 := Ybaf.isAgg0
  z0 := Ybaf.sizeOf0
  v0 := Ybaf.zeroValue0
  t3 := Ybaf.underlying3
  a3 := Ybaf.isAgg3
  z3 := Ybaf.sizeOf3
  v3 := Ybaf.zeroValue3
  t4 := Ybaf.underlying4
  a4 := Ybaf.isAgg4
  z4 := Ybaf.sizeOf4
  v4 := Ybaf.zeroValue4
  t5 := Ybaf.underlying5
  a5 := Ybaf.isAgg5
  z5 := Ybaf.sizeOf5
  v5 := Ybaf.zeroValue5
  t9 := Ybaf.underlying9
  a9 := Ybaf.isAgg9
  z9 := Ybaf.sizeOf9
  v9 := Ybaf.zeroValue9
  t20 := Ybaf.underlying20
  a20 := Ybaf.isAgg20
  z20 := Ybaf.sizeOf20
  v20 := Ybaf.zeroValue20
  t37 := Ybaf.underlying22
  a37 := Ybaf.isAgg22
  z37 := Ybaf.sizeOf22
  v37 := Ybaf.zeroValue22
  t46 := Ybaf.underlying51
  a46 := Ybaf.isAgg51
  z46 := Ybaf.sizeOf51
  v46 := Ybaf.zeroValue51
  t51 := Ybaf.underlying66
  a51 := Ybaf.isAgg66
  z51 := Ybaf.sizeOf66
  v51 := Ybaf.zeroValue66
  t53 := Ybaf.underlying69
  a53 := Ybaf.isAgg69
  z53 := Ybaf.sizeOf69
  v53 := Ybaf.zeroValue69
  t70 := Ybaf.underlying54
  a70 := Ybaf.isAgg54
  z70 := Ybaf.sizeOf54
  v70 := Ybaf.zeroValue54
  t72 := Ybaf.underlying56
  a72 := Ybaf.isAgg56
  z72 := Ybaf.sizeOf56
  v72 := Ybaf.zeroValue56
  t75 := Ybaf.underlying31
  a75 := Ybaf.isAgg31
  z75 := Ybaf.sizeOf31
  v75 := Ybaf.zeroValue31
  t76 := Ybaf.underlying58
  a76 := Ybaf.isAgg58
  z76 := Ybaf.sizeOf58
  v76 := Ybaf.zeroValue58
  t109 := Ybaf.underlying52
  a109 := Ybaf.isAgg52
  z109 := Ybaf.sizeOf52
  v109 := Ybaf.zeroValue52
  t127 := Ybaf.underlying72
  a127 := Ybaf.isAgg72
  z127 := Ybaf.sizeOf72
  v127 := Ybaf.zeroValue72
  t146 := Ybaf.underlying67
  a146 := Ybaf.isAgg67
  z146 := Ybaf.sizeOf67
  v146 := Ybaf.zeroValue67
  t148 := Ybaf.underlying70
  a148 := Ybaf.isAgg70
  z148 := Ybaf.sizeOf70
  v148 := Ybaf.zeroValue70
  t164 := Ybaf.underlying74
  a164 := Ybaf.isAgg74
  z164 := Ybaf.sizeOf74
  v164 := Ybaf.zeroValue74 }
theorem Ybaf.Builder_Extra_105 : Builder.Extra Ybaf.prog Ybaf.lays105_ren := {
  sizeBuilder := by kernel_rfl
  liesBuilder := by kernel_rfl
  t5 := Ybaf.underlying5
  a5 := Ybaf.isAgg5
  z5 := Ybaf.sizeOf5
  v5 := Ybaf.zeroValue5
  infoByte := by kernel_rfl
  cellsByte := by kernel_rfl
  sizeByte := by kernel_rfl
  neB5 := by decide }
open Go.RowKit Go.Lib in
/-- **strings.Repeat: count ≥ 0, the result within one allocation: count copies of s.** (LAID: no walk: one application.) -/
theorem Ybaf.strings_Repeat (s : ByteArray) (c : Nat) (w : World) (hc : c ≤ 9223372036854775807) (hlen : s.size * c ≤ 140737488355328) :
    Calls Ybaf.prog 10 #[.string s, .int .i64 c] w fun e w' => e = .returned (.string ⟨(Lib.repeatL s.data.toList c).toArray⟩) ∧ Below w.heap.size w w' := Any.strings_Repeat Ybaf.lays105 Ybaf.Builder_Extra_105 s c w hc hlen
end Go.Proofs
