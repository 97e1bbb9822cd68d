/- Wc: joined by merge.py for the claim. -/
import Derived.Test.YtknjgopapbemcaaGreatDoorChecked
import Derived.ChangeShapes
import Derived.WideShapes
import Derived.ChangeArms
import Derived.OpenShut
/- The two arguments of laws.FnMatch: opened, and shut again behind the call. -/
namespace Go.Proofs.YtknjgopapbemcaaGreatDoor
open Go.ChangeShapes Go.WideShapes
set_option linter.unusedVariables false
set_option linter.unusedSimpArgs false
set_option maxRecDepth 100000
variable {H : Type} {enc : TypeId × Value → H} {w : World} {base : Nat} {sp : Nat → Bool} {held : Bool}
theorem cells3 : Tryz.prog.cellsOf 3 = 1 := by kernel_rfl
theorem cells4 : Tryz.prog.cellsOf 4 = 1 := by kernel_rfl
theorem cells9 : Tryz.prog.cellsOf 9 = 1 := by kernel_rfl
theorem cells23 : Tryz.prog.cellsOf 23 = 3 := by kernel_rfl
theorem cells25 : Tryz.prog.cellsOf 25 = 6 := by kernel_rfl
theorem open_text {b0 : Nat} {v : Value} {d : DataW H} {ps : List MemPlace} (hval : Value.okWide Tryz.prog w .any b0 9 v) (hd : DataW.Trod enc Tryz.prog w base sp held 9 v d ps) :
    ∃ s : ByteArray, v = .string s ∧ d = .lit (.string s.data.toList) ∧ ps = [] ∧ s.size ≤ maxLen := by
  obtain ⟨s, rfl⟩ := okWide_string Tryz.underlying9 hval
  obtain ⟨fuel, hf⟩ := hd
  obtain ⟨s', h, hx, hw⟩ := DataW.trod_string Tryz.underlying9 hf
  simp [Value.cells] at h
  subst h
  simp only [Prod.mk.injEq] at hx
  exact ⟨s, rfl, hx.1, hx.2, hw⟩
theorem shut_text {s : ByteArray} (h : s.size ≤ maxLen) : DataW.Trod enc Tryz.prog w base sp held 9 (.string s) (.lit (.string s.data.toList)) [] :=
  ⟨1, by simp [DataW.trod, Tryz.underlying9, Value.cells, h]⟩
/-- The cells and the datum of a Filter. -/
def fVal (num op k : Int) (s : ByteArray) (n : Int) (b : Bool) : Value := .agg #[.int .i64 num, .int .i64 op, .int .i64 k, .string s, .int .i64 n, .bool b]
def fDat {H : Type} (num op k : Int) (s : ByteArray) (n : Int) (b : Bool) : DataW H :=
  .agg [.lit (.int .i64 num), .lit (.int .i64 op), .agg [.lit (.int .i64 k), .lit (.string s.data.toList), .lit (.int .i64 n)], .lit (.bool b)]
theorem open_filter {b0 : Nat} {v : Value} {d : DataW H} {ps : List MemPlace} (hval : Value.okWide Tryz.prog w .any b0 25 v) (hd : DataW.Trod enc Tryz.prog w base sp held 25 v d ps) :
    ∃ (num op k : Int) (s : ByteArray) (n : Int) (b : Bool), v = fVal num op k s n b ∧ d = fDat num op k s n b ∧ ps = [] ∧
      (Lit.int .i64 num).wf = true ∧ (Lit.int .i64 op).wf = true ∧ (Lit.int .i64 k).wf = true ∧ s.size ≤ maxLen ∧ (Lit.int .i64 n).wf = true := by
  unfold Value.okWide at hval
  rw [Tryz.underlying25] at hval
  obtain ⟨cs, rfl, hsz, _⟩ := hval
  rw [cells25] at hsz
  obtain ⟨fuel, hf⟩ := hd
  have hf' : DataW.trod enc Tryz.prog w base sp held fuel 25 cs.toList = some (d, ps) := hf
  obtain ⟨c0, c1, c2, c3, c4, c5, hcs⟩ : ∃ c0 c1 c2 c3 c4 c5, cs.toList = [c0, c1, c2, c3, c4, c5] := by
    have hl : cs.toList.length = 6 := by rw [Array.length_toList]; exact hsz
    match h : cs.toList, hl with
    | [c0, c1, c2, c3, c4, c5], _ => exact ⟨c0, c1, c2, c3, c4, c5, rfl⟩
  rw [hcs] at hf'
  obtain ⟨xs, m, rfl, hx, hl, hxl, hall⟩ := DataW.trod_struct Tryz.underlying25 hf'
  obtain ⟨x0, x1, x2, x3, rfl⟩ : ∃ x0 x1 x2 x3, xs = [x0, x1, x2, x3] := by
    match h : xs, hxl with
    | [x0, x1, x2, x3], _ => exact ⟨x0, x1, x2, x3, rfl⟩
  have f0 : DataW.trod enc Tryz.prog w base sp held m 3 (([c0, c1, c2, c3, c4, c5].drop 0).take (Tryz.prog.cellsOf 3)) = some x0 := hall 0 _ rfl
  have f1 : DataW.trod enc Tryz.prog w base sp held m 3 (([c0, c1, c2, c3, c4, c5].drop 1).take (Tryz.prog.cellsOf 3)) = some x1 := hall 1 _ rfl
  have f2 : DataW.trod enc Tryz.prog w base sp held m 23 (([c0, c1, c2, c3, c4, c5].drop 2).take (Tryz.prog.cellsOf 23)) = some x2 := hall 2 _ rfl
  have f3 : DataW.trod enc Tryz.prog w base sp held m 4 (([c0, c1, c2, c3, c4, c5].drop 5).take (Tryz.prog.cellsOf 4)) = some x3 := hall 3 _ rfl
  rw [cells3] at f0 f1
  rw [cells23] at f2
  rw [cells4] at f3
  obtain ⟨num, e0, rfl, w0⟩ := DataW.trod_int Tryz.underlying3 (f0.trans rfl)
  obtain ⟨op, e1, rfl, w1⟩ := DataW.trod_int Tryz.underlying3 (f1.trans rfl)
  obtain ⟨b, e3, rfl⟩ := DataW.trod_bool Tryz.underlying4 (f3.trans rfl)
  obtain ⟨ys, m', rfl, hy, hl', hyl, hall'⟩ := DataW.trod_struct Tryz.underlying23 (f2.trans rfl)
  obtain ⟨y0, y1, y2, rfl⟩ : ∃ y0 y1 y2, ys = [y0, y1, y2] := by
    match h : ys, hyl with
    | [y0, y1, y2], _ => exact ⟨y0, y1, y2, rfl⟩
  subst hy
  have g0 : DataW.trod enc Tryz.prog w base sp held m' 3 (([c2, c3, c4].drop 0).take (Tryz.prog.cellsOf 3)) = some y0 := hall' 0 _ rfl
  have g1 : DataW.trod enc Tryz.prog w base sp held m' 9 (([c2, c3, c4].drop 1).take (Tryz.prog.cellsOf 9)) = some y1 := hall' 1 _ rfl
  have g2 : DataW.trod enc Tryz.prog w base sp held m' 3 (([c2, c3, c4].drop 2).take (Tryz.prog.cellsOf 3)) = some y2 := hall' 2 _ rfl
  rw [cells3] at g0 g2
  rw [cells9] at g1
  obtain ⟨k, k0, rfl, v0⟩ := DataW.trod_int Tryz.underlying3 (g0.trans rfl)
  obtain ⟨s, k1, rfl, v1⟩ := DataW.trod_string Tryz.underlying9 (g1.trans rfl)
  obtain ⟨n, k2, rfl, v2⟩ := DataW.trod_int Tryz.underlying3 (g2.trans rfl)
  simp at e0 e1 e3 k0 k1 k2
  subst e0 e1 e3 k0 k1 k2
  simp only [Prod.mk.injEq] at hx
  refine ⟨num, op, k, s, n, b, ?_, hx.1, hx.2, w0, w1, v0, v1, v2⟩
  unfold fVal
  congr 1
  apply Array.toList_inj.1
  exact hcs
theorem shut_filter {num op k n : Int} {s : ByteArray} {b : Bool} (w0 : (Lit.int .i64 num).wf = true) (w1 : (Lit.int .i64 op).wf = true) (v0 : (Lit.int .i64 k).wf = true) (v1 : s.size ≤ maxLen) (v2 : (Lit.int .i64 n).wf = true) :
    DataW.Trod enc Tryz.prog w base sp held 25 (fVal num op k s n b) (fDat num op k s n b) [] :=
  ⟨3, by simp [DataW.trod, Tryz.underlying25, Tryz.underlying23, Tryz.underlying3, Tryz.underlying4, Tryz.underlying9, cells3, cells4, cells9, cells23, cells25, fVal, fDat, Value.cells, w0, w1, v0, v1, v2]⟩
end Go.Proofs.YtknjgopapbemcaaGreatDoor
