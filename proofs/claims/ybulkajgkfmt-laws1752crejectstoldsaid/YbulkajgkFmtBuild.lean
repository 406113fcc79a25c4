/-
  THE WALK OF 'zzs1752cbuild' (7): the lines as dedent takes them, and what each should become.
-/
import Derived.Test.YbulkajgkFmtParts
import Derived.Test.YbulkajgkFmtShelf
import Derived.Deep.RegionLaw
import Derived.Deep.Cut
import Derived.Deep.CutRange
namespace Go.Proofs.YbulkajgkFmt
open Go.RowKit
set_option linter.unusedVariables false

/-! ### Plain -/
def tx (P : List UInt8) (l : Ln) : List UInt8 := if l.blank then List.replicate (l.pad % 8).toNat 32 else P ++ 120 :: l.body.data.toList
def wn (l : Ln) : List UInt8 := if l.blank then [] else 120 :: l.body.data.toList
def es (P : List UInt8) (l : Ln) : Int := if l.blank then -1 else if l.esc % 3 = 1 then (P.length : Int) else if l.esc % 3 = 2 then (P.length : Int) + 1 else -1
def lnOf (P : List UInt8) (l : Ln) : ByteArray × Int × Int := (⟨(tx P l).toArray⟩, es P l, l.line)
def lines (P : List UInt8) (L : Nat → Ln) (k : Nat) : List (ByteArray × Int × Int) := (List.range k).map fun i => lnOf P (L i)
def wants (L : Nat → Ln) (k : Nat) : List ByteArray := (List.range k).map fun i => ⟨(wn (L i)).toArray⟩
theorem lines_succ (P : List UInt8) (L : Nat → Ln) (k : Nat) : lines P L (k + 1) = lines P L k ++ [lnOf P (L k)] := by simp [lines, List.range_succ]
theorem wants_succ (L : Nat → Ln) (k : Nat) : wants L (k + 1) = wants L k ++ [⟨(wn (L k)).toArray⟩] := by simp [wants, List.range_succ]
theorem lines_length (P : List UInt8) (L : Nat → Ln) (k : Nat) : (lines P L k).length = k := by simp [lines]
theorem wants_length (L : Nat → Ln) (k : Nat) : (wants L k).length = k := by simp [wants]

def fl : List (ByteArray × Int × Int) → List Value
  | [] => []
  | r :: rs => .string r.1 :: .int .i64 r.2.1 :: .int .i64 r.2.2 :: fl rs
theorem fl_append : ∀ (a b : List (ByteArray × Int × Int)), fl (a ++ b) = fl a ++ fl b
  | [], b => rfl
  | r :: a, b => by simp [fl, fl_append a b]
theorem fl_length : ∀ (a : List (ByteArray × Int × Int)), (fl a).length = a.length * 3
  | [] => rfl
  | r :: a => by simp [fl, fl_length a]; omega
theorem fl_at : ∀ (a : List (ByteArray × Int × Int)) (i : Nat) (r : ByteArray × Int × Int), a[i]? = some r →
    (fl a)[i * 3]? = some (.string r.1) ∧ (fl a)[i * 3 + 1]? = some (.int .i64 r.2.1) ∧ (fl a)[i * 3 + 2]? = some (.int .i64 r.2.2)
  | [], i, r, h => by simp at h
  | s :: a, 0, r, h => by simp at h; subst h; simp [fl]
  | s :: a, i + 1, r, h => by
    have := fl_at a i r (by simpa using h)
    have e0 : (i + 1) * 3 = i * 3 + 3 := by omega
    simp only [fl, e0]
    simpa using this

theorem ba_of {a : ByteArray} {l : List UInt8} (h : a.data.toList = l) : a = ⟨l.toArray⟩ := by
  apply ByteArray.ext
  rw [← h]

theorem cell_three_new (w : World) (a b c : Value) (t : TypeId) : ∀ j u, [a, b, c][j]? = some u → (w.alloc (.cells #[a, b, c] t)).cell? ((⟨w.heap.size, 0, none⟩ : Addr).add j) = some u := by
  intro j u hj
  match j, hj with
  | 0, hj => simp at hj; subst hj; simp [Addr.add]
  | 1, hj => simp at hj; subst hj; simp [Addr.add]
  | 2, hj => simp at hj; subst hj; simp [Addr.add]
  | j + 3, hj => simp at hj
theorem three_one (a : ByteArray) (b c : Int) : ∀ u ∈ [Value.string a, .int .i64 b, .int .i64 c], u.oneCell' = true := by
  intro u hu
  simp at hu
  rcases hu with rfl | rfl | rfl <;> rfl

theorem Ybaf.info35 : (Ybaf.prog.info? 35).map (fun i => (i.zero, i.size, i.bytes)) = some (some (.agg #[.string ByteArray.empty, .int .i64 0, .int .i64 0]), 3, 32) := by kernel_rfl
theorem Ybaf.info9 : (Ybaf.prog.info? 9).map (fun i => (i.zero, i.size, i.bytes)) = some (some (.string ByteArray.empty), 1, 16) := by kernel_rfl

/-- 'append' within the capacity, as one step of a region that draws its order -/
theorem step_append_fits {P : Program} {ops : Array Oper} {o : Oper} {a : Act} {w : World} {K : Act → World → Prop} {Q : Exit → Act → World → Prop} {E : Prop}
    (hg : o.guard = none) (s x : Operand) (t : TypeId) (hop : o.op = Op.call { callee := Callee.builtin Builtin.append, args := #[s, x], argTypes := #[t, t] })
    (base : Nat) (e : TypeId) (i : TypeInfo) (size : Nat) (h1 : P.underlying t = some (.slice e)) (h2 : P.info? e = some i) (h4 : i.size = size)
    (g k cap : Nat) (xs : List Value) (hs : a.eval s = .slice (some ⟨g, 0, none⟩) k cap) (hown : w.ownsRow base e size (.slice (some ⟨g, 0, none⟩) k cap) k xs) (ad : Addr) (m c : Nat) (news : List Value) (hx : a.eval x = .slice (some ad) m c) (hn : news.length = m * size)
    (hc : ∀ j u, news[j]? = some u → w.cell? (ad.add j) = some u) (h1c : ∀ u ∈ news, u.oneCell' = true) (b1 : k + m ≤ cap)
    (hK : ∀ w', w'.ownsRow base e size (.slice (some ⟨g, 0, none⟩) (k + m) cap) (k + m) (xs ++ news) → w.grownBy w' (some g) → K (a.put o.dst (.slice (some ⟨g, 0, none⟩) (k + m) cap)) w') :
    if Region.wanted o (yielded ops a.tmps) = true then Oper.wp P o a w K Q else E := by
  have hw : Region.wanted o (yielded ops a.tmps) = true := by simp [Region.wanted, hg]
  rw [if_pos hw]
  obtain ⟨w', hrun, r1, r2⟩ := run_append_fits (P := P) w base t o.type e i size h1 h2 h4 g k cap xs hown ad m c news hn hc h1c b1
  unfold Oper.wp
  simp [execOp, hop, resolve, invoke, builtin, hs, hx, hrun, Result.andThen]
  exact hK w' r1 r2

structure BuildIn (w wr : World) (P : List UInt8) (L : Nat → Ln) (len g1 g2 ko k : Nat) : Prop where
  below : Below w.heap.size w wr
  b1 : w.heap.size ≤ g1
  b2 : w.heap.size ≤ g2
  ne : g1 ≠ g2
  out : wr.ownsRow w.heap.size 35 3 (.slice (some ⟨g1, 0, none⟩) ko len) ko (fl (lines P L ko))
  want : wr.ownsRow w.heap.size 9 1 (.slice (some ⟨g2, 0, none⟩) k len) k ((wants L k).map Value.string)

theorem own_below {w w' : World} {base : Nat} {e : TypeId} {size : Nat} {v : Value} {n : Nat} {xs : List Value} (h : w.ownsRow base e size v n xs) (hb : Below w.heap.size w w') : w'.ownsRow base e size v n xs := by
  obtain ⟨h1, h2⟩ := h
  refine ⟨h1, ?_⟩
  rcases h2 with h2 | ⟨g, cap, cur, hv, hg, hh, r⟩
  · exact .inl h2
  · exact .inr ⟨g, cap, cur, hv, hg, (hb.block g (Array.getElem?_eq_some_iff.1 hh).1).trans hh, r⟩

/-- memory that is only laid -/
theorem BuildIn.later {w wr wx : World} {P : List UInt8} {L : Nat → Ln} {len g1 g2 ko k : Nat} (h : BuildIn w wr P L len g1 g2 ko k) (hb : Below wr.heap.size wr wx) : BuildIn w wx P L len g1 g2 ko k :=
  ⟨h.below.trans (hb.mono h.below.size), h.b1, h.b2, h.ne, own_below h.out hb, own_below h.want hb⟩
/-- a line more -/
theorem BuildIn.line {w wx wy : World} {P : List UInt8} {L : Nat → Ln} {len g1 g2 k : Nat} {T : ByteArray} {E N : Int} (h : BuildIn w wx P L len g1 g2 k k)
    (ho : wy.ownsRow w.heap.size 35 3 (.slice (some ⟨g1, 0, none⟩) (k + 1) len) (k + 1) (fl (lines P L k) ++ [.string T, .int .i64 E, .int .i64 N])) (hg : wx.grownBy wy (some g1)) (hT : (T, E, N) = lnOf P (L k)) :
    BuildIn w wy P L len g1 g2 (k + 1) k := by
  refine ⟨Below.grown h.below hg h.below.size (fun j hj => by cases hj; exact h.b1), h.b1, h.b2, h.ne, ?_, h.want.kept hg (.inr (by simp [Value.ownBlock]; exact fun e => h.ne e.symm))⟩
  rw [lines_succ, fl_append, ← hT]
  exact ho
/-- what it should become -/
theorem BuildIn.word {w wx wy : World} {P : List UInt8} {L : Nat → Ln} {len g1 g2 k : Nat} {T : ByteArray} (h : BuildIn w wx P L len g1 g2 (k + 1) k)
    (ho : wy.ownsRow w.heap.size 9 1 (.slice (some ⟨g2, 0, none⟩) (k + 1) len) (k + 1) ((wants L k).map Value.string ++ [.string T])) (hg : wx.grownBy wy (some g2)) (hT : T = ⟨(wn (L k)).toArray⟩) :
    BuildIn w wy P L len g1 g2 (k + 1) (k + 1) := by
  refine ⟨Below.grown h.below hg h.below.size (fun j hj => by cases hj; exact h.b2), h.b1, h.b2, h.ne, h.out.kept hg (.inr (by simp [Value.ownBlock]; exact h.ne)), ?_⟩
  rw [wants_succ, List.map_append, ← hT]
  exact ho

theorem repeat_blank (c : Nat) : Lib.repeatL [32] c = List.replicate c 32 := by
  induction c with
  | zero => rfl
  | succ c ih => simp [Lib.repeatL, ih, List.replicate_succ]

theorem build_start {w w1 w2 : World} (P : List UInt8) (L : Nat → Ln) (len : Nat) (o1 : w1.ownsRow w.heap.size 35 3 (.slice (some ⟨w.heap.size, 0, none⟩) 0 len) 0 []) (g1 : w.grownBy w1 none)
    (o2 : w2.ownsRow w.heap.size 9 1 (.slice (some ⟨w1.heap.size, 0, none⟩) 0 len) 0 []) (g2 : w1.grownBy w2 none) : BuildIn w w2 P L len w.heap.size w1.heap.size 0 0 := by
  have hb1 : Below w.heap.size w w1 := Below.grown (Below.refl _ _) g1 (Nat.le_refl _) (fun k hk => by cases hk)
  have hlt : w.heap.size < w1.heap.size := (o1.lt _ rfl).2
  exact ⟨Below.grown hb1 g2 hb1.size (fun k hk => by cases hk), Nat.le_refl _, hb1.size, by omega, o1.kept g2 (.inr (by simp [Value.ownBlock])), o2⟩

set_option maxRecDepth 1000000 in
set_option maxHeartbeats 1600000 in
theorem build_any (a : Option Addr) (b off len cap : Nat) (L : Nat → Ln) (S : ByteArray) (w : World) (hl : len ≤ 1024) (hv : LsView w a b off len L) (hbd : ∀ i, i < len → (L i).body.size ≤ 1024) (hS : S.size ≤ 4096) :
    Calls Ybaf.prog 7 #[.slice a len cap, .string S] w fun e w' => ∃ g1 g2 : Nat, e = .returned (.tuple #[.slice (some ⟨g1, 0, none⟩) len len, .slice (some ⟨g2, 0, none⟩) len len]) ∧ BuildIn w w' S.data.toList L len g1 g2 len len := by
  obtain ⟨i35, hi35, hz35, hs35, hb35⟩ := info_parts Ybaf.info35
  obtain ⟨i9, hi9, hz9, hs9, hb9⟩ := info_parts Ybaf.info9
  have HV := toHid hv
  have HB := toHid hbd
  clear hv hbd
  have c44 := Ybaf.cells44
  go_enter Ybaf.func7, Ybaf.ntmps7
  go_wp2_with (first
    | (at_make; refine wpList_make_own _ rfl (.const (.int .i64 0)) (.tmp 13) 26 rfl w.heap.size 35 i35 (.agg #[.string ByteArray.empty, .int .i64 0, .int .i64 0]) 3 Ybaf.underlying26 hi35 hz35 hs35 .i64 .i64 (len : Int) len rfl rfl rfl (by rw [hb35]; omega) (by unfold maxLen; omega) (Nat.le_refl _) ?_; intro w1 o1 g1)
    | (at_make; refine wpList_make_own _ rfl (.const (.int .i64 0)) (.tmp 16) 27 rfl w.heap.size 9 i9 (.string ByteArray.empty) 1 Ybaf.underlying27 hi9 hz9 hs9 .i64 .i64 (len : Int) len rfl rfl rfl (by rw [hb9]; omega) (by unfold maxLen; omega) g1.size ?_; intro w2 o2 g2))
  have hI0 := toHid (build_start S.data.toList L len o1 g1 o2 g2)
  clear o1 g1 o2 g2
  generalize w1.heap.size = G2 at *
  obtain ⟨G1, hG1⟩ : ∃ G1, G1 = w.heap.size := ⟨_, rfl⟩
  rw [← hG1]
  have hI1 : Hid (BuildIn w w2 S.data.toList L len G1 G2 0 0) := by rw [hG1]; exact hI0
  clear hI0 hG1
  go_loopg [6, 7, 20] len (fun q s6 s7 s20 wr => ∃ k : Nat, k + q = len ∧ s6 = .slice (some ⟨G1, 0, none⟩) k len ∧ s7 = .slice (some ⟨G2, 0, none⟩) k len ∧ s20 = .int .i64 (k : Int) ∧ Hid (BuildIn w wr S.data.toList L len G1 G2 k k))
  case atStart => exact ⟨0, by omega, rfl, rfl, rfl, hI1⟩
  case round =>
    clear hI1
    obtain ⟨k, hk, rfl, rfl, rfl, hI⟩ := hrel
    have hk' := toHid hk
    cases gk with
    | zero =>
      obtain rfl : k = len := by omega
      clear hk
      go_wp2
      refine bodyPost_ret (v := .tuple #[.slice (some ⟨G1, 0, none⟩) k k, .slice (some ⟨G2, 0, none⟩) k k]) (by simp [results, Ybaf.results7, go_sem]) rfl ⟨G1, G2, rfl, hI.out⟩
    | succ t =>
      have hkl : k < len := by omega
      clear hk
      have V := HV.out.later hI.out.below
      obtain rfl := V.addr (by omega)
      have l0 := V.c0 k hkl
      have l1 := V.c1 k hkl
      have l2 := V.c2 k hkl
      have l3 := V.c3 k hkl
      have l4 := V.c4 k hkl
      have hbk := HB.out k hkl
      obtain ⟨p1, p2⟩ := V.bp k hkl
      obtain ⟨e1, e2⟩ := V.be k hkl
      have hkz : (k : Int) < (len : Int) := by omega
      obtain ⟨l, hl'⟩ : ∃ l, l = L k := ⟨_, rfl⟩
      rw [← hl'] at l0 l1 l2 l3 l4 hbk p1 p2 e1 e2
      have HL := toHid hl'
      clear V hl'
      obtain ⟨body, blank, pad, esc, line⟩ := l
      simp only at l0 l1 l2 l3 l4 hbk p1 p2 e1 e2
      cases blank with
      | true =>
        obtain ⟨c, hc⟩ : ∃ c : Nat, pad % 8 = (c : Int) := ⟨(pad % 8).toNat, by omega⟩
        have hc8 : c ≤ 7 := by omega
        have hcw : IntKind.i64.wrap (pad.tmod 8) = (c : Int) := by
          rw [Int.tmod_eq_emod_of_nonneg p1, hc, IntKind.wrap_i64]
          omega
        have HT := toHid (show ((⟨(Lib.repeatL [32] c).toArray⟩ : ByteArray), (-1 : Int), line) = lnOf S.data.toList (L k) by
          rw [← HL.out, repeat_blank]
          have e0 : (pad % 8).toNat = c := by omega
          simp [lnOf, tx, es, e0])
        have HW := toHid (show (⟨#[]⟩ : ByteArray) = ⟨(wn (L k)).toArray⟩ by rw [← HL.out]; simp [wn])
        have hI2 := toHid (hI.out.later ((Below.refl _ _).alloc (Nat.le_refl _) (.cells #[.string body, .bool true, .int .u8 pad, .int .u8 esc, .int .i64 line] 44)))
        have m2 : (wr.alloc (.cells #[.string body, .bool true, .int .u8 pad, .int .u8 esc, .int .i64 line] 44)).cell? ⟨wr.heap.size, 2, none⟩ = some (.int .u8 pad) := by simp
        have m4 : (wr.alloc (.cells #[.string body, .bool true, .int .u8 pad, .int .u8 esc, .int .i64 line] 44)).cell? ⟨wr.heap.size, 4, none⟩ = some (.int .i64 line) := by simp
        go_wp2
        clear l0 l1 l2 l3 l4
        generalize wr.alloc (.cells #[.string body, .bool true, .int .u8 pad, .int .u8 esc, .int .i64 line] 44) = W1 at *
        generalize wr.heap.size = hs0 at *
        go_cut [6] from 21 to 69 (fun s6 wc => s6 = .slice (some ⟨G1, 0, none⟩) (k + 1) len ∧ Hid (BuildIn w wc S.data.toList L len G1 G2 (k + 1) k))
        case first =>
          go_region_law (first
            | (refine step_append_fits rfl (.tmp 26) (.tmp 35) 26 rfl w.heap.size 35 i35 3 Ybaf.underlying26 hi35 hs35 G1 k len (fl (lines S.data.toList L k)) (by simp [Act.eval]) (hJ.out.out.alloc _) ⟨wj.heap.size, 0, none⟩ 1 1 [.string ⟨(Lib.repeatL [32] c).toArray⟩, .int .i64 (-1), .int .i64 line] (by simp [Act.eval]) rfl (cell_three_new _ _ _ _ _) (three_one _ _ _) (by omega) ?_; intro wz oz gz)
            | (go_simp; go_at_call 10; refine (Ybaf.strings_Repeat ⟨#[32]⟩ c _ (by omega) (by show 1 * c ≤ _; omega)).mono ?_; rintro e' wj ⟨rfl, hbd⟩; have hbj : Below W1.heap.size W1 wj := (Below.refl W1.heap.size W1).drew.trans hbd; have hJ : Hid (BuildIn w wj S.data.toList L len G1 G2 k k) := hI2.out.later hbj; have n2 := cell_keep hbj m2; have n4 := cell_keep hbj m4; clear hbj hbd))
          all_goals go_wp2_with fail
          all_goals go_meet
          all_goals exact ⟨rfl, (hJ.out.later ((Below.refl _ _).alloc (Nat.le_refl _) _)).line oz gz HT.out⟩
        case rest =>
          obtain ⟨rfl, hM⟩ := hcut
          go_wp2_with (at_builtin; refine wpList_append_fits _ rfl (.tmp 37) (.tmp 38) 27 rfl w.heap.size 9 i9 1 Ybaf.underlying27 hi9 hs9 G2 k len ((wants L k).map Value.string) rfl (hM.out.want.alloc _) ⟨wc.heap.size, 0, none⟩ 1 1 [.string ⟨#[]⟩] rfl rfl (cell_one_new _ _ _) (fun x hx => by simp at hx; subst hx; rfl) (by omega) ?_; intro wz oz gz; have X := toHid ((hM.out.later ((Below.refl _ _).alloc (Nat.le_refl _) _)).word oz gz HW.out); clear oz gz)
          go_roundg t
          case rel => exact ⟨k + 1, by have := hk'.out; omega, rfl, rfl, by go_num, X⟩
          case measure => omega
      | false =>
        have HT := toHid (show ∀ E : Int, E = es S.data.toList (L k) → (S ++ ((⟨#[120]⟩ : ByteArray) ++ body), E, line) = lnOf S.data.toList (L k) by
          intro E hE
          rw [hE, ← HL.out]
          have e1 : S ++ ((⟨#[120]⟩ : ByteArray) ++ body) = ⟨(S.data.toList ++ 120 :: body.data.toList).toArray⟩ := ba_of (by rw [app_list, app_list]; rfl)
          simp [lnOf, tx, e1])
        have HW := toHid (show (⟨#[120]⟩ : ByteArray) ++ body = ⟨(wn (L k)).toArray⟩ by rw [← HL.out]; exact ba_of (by rw [app_list]; rfl))
        have HE := toHid (show es S.data.toList (L k) = if esc % 3 = 1 then (S.size : Int) else if esc % 3 = 2 then (S.size : Int) + 1 else -1 by rw [← HL.out, size_list]; rfl)
        have hI2 := toHid (hI.out.later ((Below.refl _ _).alloc (Nat.le_refl _) (.cells #[.string body, .bool false, .int .u8 pad, .int .u8 esc, .int .i64 line] 44)))
        have hx1 : ((⟨#[120]⟩ : ByteArray)).size = 1 := rfl
        have m0 : (wr.alloc (.cells #[.string body, .bool false, .int .u8 pad, .int .u8 esc, .int .i64 line] 44)).cell? ⟨wr.heap.size, 0, none⟩ = some (.string body) := by simp
        have m3 : (wr.alloc (.cells #[.string body, .bool false, .int .u8 pad, .int .u8 esc, .int .i64 line] 44)).cell? ⟨wr.heap.size, 3, none⟩ = some (.int .u8 esc) := by simp
        have m4 : (wr.alloc (.cells #[.string body, .bool false, .int .u8 pad, .int .u8 esc, .int .i64 line] 44)).cell? ⟨wr.heap.size, 4, none⟩ = some (.int .i64 line) := by simp
        go_upto_region 9 with fail
        clear l0 l1 l2 l3 l4
        generalize wr.alloc (.cells #[.string body, .bool false, .int .u8 pad, .int .u8 esc, .int .i64 line] 44) = W1 at *
        generalize wr.heap.size = hs0 at *
        have hn0 := World.block_lt_of_cell? _ _ m0
        obtain ⟨c, hc⟩ : ∃ c : Int, esc % 3 = c := ⟨_, rfl⟩
        have hS2 : S.size + body.size ≤ 10000 := by omega
        have HE2 := HE.out
        rw [hc] at HE2
        rcases (show c = 0 ∨ c = 1 ∨ c = 2 by omega) with rfl | rfl | rfl
        · have HT2 := toHid (HT.out (-1) (by rw [HE2]; rfl))
          clear HE2
          go_wp2_with (first
            | (at_builtin; refine wpList_append_fits _ rfl (.tmp 55) (.tmp 63) 26 rfl w.heap.size 35 i35 3 Ybaf.underlying26 hi35 hs35 G1 k len (fl (lines S.data.toList L k)) rfl (hI2.out.out.alloc _) ⟨W1.heap.size, 0, none⟩ 1 1 [.string (S ++ ((⟨#[120]⟩ : ByteArray) ++ body)), .int .i64 (-1), .int .i64 line] rfl rfl (cell_three_new _ _ _ _ _) (three_one _ _ _) (by omega) ?_; intro wy oy gy; have Y := toHid ((hI2.out.later ((Below.refl _ _).alloc (Nat.le_refl _) _)).line oy gy HT2.out); clear oy gy)
            | (at_builtin; refine wpList_append_fits _ rfl (.tmp 65) (.tmp 67) 27 rfl w.heap.size 9 i9 1 Ybaf.underlying27 hi9 hs9 G2 k len ((wants L k).map Value.string) rfl (Y.out.want.alloc _) ⟨wy.heap.size, 0, none⟩ 1 1 [.string ((⟨#[120]⟩ : ByteArray) ++ body)] rfl rfl (cell_one_new _ _ _) (fun x hx => by simp at hx; subst hx; rfl) (by omega) ?_; intro wz oz gz; have Z := toHid ((Y.out.later ((Below.refl _ _).alloc (Nat.le_refl _) _)).word oz gz HW.out); clear oz gz))
          go_roundg t
          case rel => exact ⟨k + 1, by have := hk'.out; omega, rfl, rfl, by go_num, Z⟩
          case measure => omega
        · have HT2 := toHid (HT.out (S.size : Int) (by rw [HE2]; rfl))
          clear HE2
          go_wp2_with (first
            | (at_builtin; refine wpList_append_fits _ rfl (.tmp 55) (.tmp 63) 26 rfl w.heap.size 35 i35 3 Ybaf.underlying26 hi35 hs35 G1 k len (fl (lines S.data.toList L k)) rfl (hI2.out.out.alloc _) ⟨W1.heap.size, 0, none⟩ 1 1 [.string (S ++ ((⟨#[120]⟩ : ByteArray) ++ body)), .int .i64 ((S.size : Int)), .int .i64 line] rfl rfl (cell_three_new _ _ _ _ _) (three_one _ _ _) (by omega) ?_; intro wy oy gy; have Y := toHid ((hI2.out.later ((Below.refl _ _).alloc (Nat.le_refl _) _)).line oy gy HT2.out); clear oy gy)
            | (at_builtin; refine wpList_append_fits _ rfl (.tmp 65) (.tmp 67) 27 rfl w.heap.size 9 i9 1 Ybaf.underlying27 hi9 hs9 G2 k len ((wants L k).map Value.string) rfl (Y.out.want.alloc _) ⟨wy.heap.size, 0, none⟩ 1 1 [.string ((⟨#[120]⟩ : ByteArray) ++ body)] rfl rfl (cell_one_new _ _ _) (fun x hx => by simp at hx; subst hx; rfl) (by omega) ?_; intro wz oz gz; have Z := toHid ((Y.out.later ((Below.refl _ _).alloc (Nat.le_refl _) _)).word oz gz HW.out); clear oz gz))
          go_roundg t
          case rel => exact ⟨k + 1, by have := hk'.out; omega, rfl, rfl, by go_num, Z⟩
          case measure => omega
        · have HT2 := toHid (HT.out ((S.size : Int) + 1) (by rw [HE2]; rfl))
          clear HE2
          go_wp2_with (first
            | (at_builtin; refine wpList_append_fits _ rfl (.tmp 55) (.tmp 63) 26 rfl w.heap.size 35 i35 3 Ybaf.underlying26 hi35 hs35 G1 k len (fl (lines S.data.toList L k)) rfl (hI2.out.out.alloc _) ⟨W1.heap.size, 0, none⟩ 1 1 [.string (S ++ ((⟨#[120]⟩ : ByteArray) ++ body)), .int .i64 ((S.size : Int) + 1), .int .i64 line] rfl rfl (cell_three_new _ _ _ _ _) (three_one _ _ _) (by omega) ?_; intro wy oy gy; have Y := toHid ((hI2.out.later ((Below.refl _ _).alloc (Nat.le_refl _) _)).line oy gy HT2.out); clear oy gy)
            | (at_builtin; refine wpList_append_fits _ rfl (.tmp 65) (.tmp 67) 27 rfl w.heap.size 9 i9 1 Ybaf.underlying27 hi9 hs9 G2 k len ((wants L k).map Value.string) rfl (Y.out.want.alloc _) ⟨wy.heap.size, 0, none⟩ 1 1 [.string ((⟨#[120]⟩ : ByteArray) ++ body)] rfl rfl (cell_one_new _ _ _) (fun x hx => by simp at hx; subst hx; rfl) (by omega) ?_; intro wz oz gz; have Z := toHid ((Y.out.later ((Below.refl _ _).alloc (Nat.le_refl _) _)).word oz gz HW.out); clear oz gz))
          go_roundg t
          case rel => exact ⟨k + 1, by have := hk'.out; omega, rfl, rfl, by go_num, Z⟩
          case measure => omega

end Go.Proofs.YbulkajgkFmt
