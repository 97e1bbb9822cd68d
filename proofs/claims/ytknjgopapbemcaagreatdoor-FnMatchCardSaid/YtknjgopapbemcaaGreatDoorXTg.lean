/- Tg: joined by merge.py for the claim. -/
import Derived.Test.YtknjgopapbemcaaGreatDoorXPkTf
import Derived.Deep.RegionHeld3
import Derived.Laws.EntriesVeiled
/- Walks: the table's own matcher. -/
namespace Go.Proofs.YtknjgopapbemcaaGreatDoor
open Go.RowKit
set_option linter.unusedVariables false
set_option linter.unusedSimpArgs false
/-- The cell as the package has it. -/
def cellV (k : Int) (s : ByteArray) (n : Int) : Value := if k = 1 then .iface 3 (.int .i64 n) else .iface 9 (.string s)
set_option maxHeartbeats 1000000 in
set_option maxRecDepth 100000 in
theorem cell_any (k : Int) (s : ByteArray) (n : Int) (w : World) : Calls Tryz.prog 16 #[.agg #[.int .i64 k, .string s, .int .i64 n]] w fun e w' => e = .returned (cellV k s n) ∧ Below w.heap.size w w' := by
  obtain ⟨V, hV⟩ : ∃ V, V = cellV k s n := ⟨_, rfl⟩
  rw [← hV]
  by_cases hk : k = 1
  · have hb : (k == 1) = true := beq_iff_eq.2 hk
    have HV : Hd (V = .iface 3 (.int .i64 n)) := ⟨by rw [hV]; unfold cellV; rw [if_pos hk]⟩
    clear hV hk
    go_enter Tryz.func16, Tryz.ntmps16
    go_wp2
    go_ret
    exact ⟨by rw [HV.out]; rfl, (Below.refl _ _).alloc (Nat.le_refl _) _⟩
  · have hb : (k == 1) = false := beq_eq_false_iff_ne.2 hk
    have HV : Hd (V = .iface 9 (.string s)) := ⟨by rw [hV]; unfold cellV; rw [if_neg hk]⟩
    clear hV hk
    go_enter Tryz.func16, Tryz.ntmps16
    go_wp2
    go_ret
    exact ⟨by rw [HV.out]; rfl, (Below.refl _ _).alloc (Nat.le_refl _) _⟩
theorem bcell {W w1 : World} (hb : Below W.heap.size W w1) : (∀ b o, b < W.heap.size → w1.cell? ⟨b, o, none⟩ = W.cell? ⟨b, o, none⟩) ∧ (∀ b o, b < W.heap.size → w1.frozen? ⟨b, o, none⟩ = W.frozen? ⟨b, o, none⟩) :=
  ⟨fun b o h => hb.cell (p := ⟨b, o, none⟩) h, fun b o h => hb.frozen (p := ⟨b, o, none⟩) h⟩
theorem step_store_row {P : Program} {ops : Array Oper} {o : Oper} {a : Act} {w : World} {K : Act → World → Prop} {Q : Exit → Act → World → Prop} {E : Prop} (hgd : o.guard = none) (ty : TypeId) (x y : Operand) (ho : o.op = .store ty x y)
    (g : Nat) (cells : Array Value) (hx : a.eval x = .pointer (some ⟨g, 0, none⟩)) (hy : a.eval y = .agg cells)
    (t : TypeId) (old : Array Value) (hg : w.heap[g]? = some (.cells old t (0, 0))) (hi : (P.info? ty).map (·.size) = some cells.size)
    (hold : old.size = cells.size) (h1 : cells.all (·.oneCell') = true)
    (h : K (a.put o.dst undef) (w.setRow g cells)) : if Region.wanted o (yielded ops a.tmps) = true then Oper.wp P o a w K Q else E := by
  have hw : Region.wanted o (yielded ops a.tmps) = true := by simp [Region.wanted, hgd]
  rw [if_pos hw]
  exact wp_store_row ty x y ho g cells hx hy t old hg hi hold h1 h
theorem size33 : (Tryz.prog.info? 33).map (·.size) = some 6 := by kernel_rfl
/-- A rule of filtering as the package has it. -/
def fltV (num op : Int) (vv : Value) (fold : Bool) : Value := .agg #[.string ⟨#[]⟩, .int .i64 num, .int .i64 op, vv, .bool fold, .nilFunc]
set_option maxHeartbeats 1000000 in
set_option maxRecDepth 100000 in
theorem filter_any (num op k : Int) (s : ByteArray) (n : Int) (fold : Bool) (w : World) :
    Calls Tryz.prog 9 #[.agg #[.int .i64 num, .int .i64 op, .int .i64 k, .string s, .int .i64 n, .bool fold]] w fun e w' => e = .returned (fltV num op (cellV k s n) fold) ∧ Below w.heap.size w w' := by
  have HC := Hd.mk (cell_any k s n)
  obtain ⟨T, V, hV⟩ : ∃ T V, cellV k s n = .iface T V := by
    unfold cellV; split
    · exact ⟨_, _, rfl⟩
    · exact ⟨_, _, rfl⟩
  rw [hV] at HC ⊢
  clear hV
  go_enter Tryz.func9, Tryz.ntmps9
  go_wp2_with fail
  obtain ⟨W, hWe⟩ : ∃ W, W = (w.alloc (.cells #[.int .i64 num, .int .i64 op, .int .i64 k, .string s, .int .i64 n, .bool fold] 25)).alloc (.cells #[.string ⟨#[]⟩, .int .i64 0, .int .i64 0, .nilIface, .bool false, .nilFunc] 33) := ⟨_, rfl⟩
  rw [← hWe]
  have hF : W.cell? ⟨w.heap.size, 0, none⟩ = some (.int .i64 num) ∧ W.cell? ⟨w.heap.size, 1, none⟩ = some (.int .i64 op) ∧ W.cell? ⟨w.heap.size, 2, none⟩ = some (.int .i64 k) ∧ W.cell? ⟨w.heap.size, 3, none⟩ = some (.string s) ∧ W.cell? ⟨w.heap.size, 4, none⟩ = some (.int .i64 n) ∧ W.cell? ⟨w.heap.size, 5, none⟩ = some (.bool fold) ∧ W.heap[w.heap.size + 1]? = some (.cells #[.string ⟨#[]⟩, .int .i64 0, .int .i64 0, .nilIface, .bool false, .nilFunc] 33 (0, 0)) := by
    have e2 : W.heap[w.heap.size + 1]? = some (.cells #[.string ⟨#[]⟩, .int .i64 0, .int .i64 0, .nilIface, .bool false, .nilFunc] 33 (0, 0)) := by
      rw [hWe]
      have := heap_alloc_new (w.alloc (.cells #[.int .i64 num, .int .i64 op, .int .i64 k, .string s, .int .i64 n, .bool fold] 25)) (.cells #[.string ⟨#[]⟩, .int .i64 0, .int .i64 0, .nilIface, .bool false, .nilFunc] 33)
      rw [show (w.alloc (.cells #[.int .i64 num, .int .i64 op, .int .i64 k, .string s, .int .i64 n, .bool fold] 25)).heap.size = w.heap.size + 1 by simp] at this
      exact this
    have e1 : W.heap[w.heap.size]? = some (.cells #[.int .i64 num, .int .i64 op, .int .i64 k, .string s, .int .i64 n, .bool fold] 25 (0, 0)) := by
      rw [hWe]
      have hb := (Below.refl (w.alloc (.cells #[.int .i64 num, .int .i64 op, .int .i64 k, .string s, .int .i64 n, .bool fold] 25)).heap.size (w.alloc (.cells #[.int .i64 num, .int .i64 op, .int .i64 k, .string s, .int .i64 n, .bool fold] 25))).alloc (Nat.le_refl _) (.cells #[.string ⟨#[]⟩, .int .i64 0, .int .i64 0, .nilIface, .bool false, .nilFunc] 33)
      rw [hb.block w.heap.size (by simp)]
      exact heap_alloc_new _ _
    refine ⟨?_, ?_, ?_, ?_, ?_, ?_, ?_⟩ <;> first | (simp [World.cell?, e1]; done) | exact e2
  have HBW : Hd (Below w.heap.size w W) := ⟨by rw [hWe]; exact ((Below.refl _ _).alloc (Nat.le_refl _) _).alloc (by simp) _⟩
  obtain ⟨B, hB⟩ : ∃ B, B = w.heap.size := ⟨_, rfl⟩
  obtain ⟨g, hg⟩ : ∃ g, g = w.heap.size + 1 := ⟨_, rfl⟩
  have hBl : B < W.heap.size := by rw [hWe, hB]; simp; omega
  have hgl : g < W.heap.size := by rw [hWe, hg]; simp
  rw [← hg, ← hB] at hF
  rw [← hg, ← hB]
  have HGB : Hd (w.heap.size ≤ g) := ⟨by omega⟩
  have hgB : B ≠ g := by omega
  obtain ⟨a0, a1, a2, a3, a4, a5, z0⟩ := hF
  clear hWe hB hg
  go_region_held3 (fun w' => w'.cell? ⟨B, 0, none⟩ = some (.int .i64 num) ∧ w'.cell? ⟨B, 1, none⟩ = some (.int .i64 op) ∧ w'.cell? ⟨B, 2, none⟩ = some (.int .i64 k) ∧ w'.cell? ⟨B, 3, none⟩ = some (.string s) ∧ w'.cell? ⟨B, 4, none⟩ = some (.int .i64 n) ∧ w'.cell? ⟨B, 5, none⟩ = some (.bool fold))
    (first
      | (go_split_ands
         refine ⟨?_, ?_, ?_, ?_, ?_, ?_⟩ <;> (first | with_reducible assumption | ((with_reducible refine (hb.cell hBl).trans ?_); with_reducible assumption) | (simp [World.cell?_setCell_other, hgB, Ne.symm hgB]; done) | (simp [World.cell?_setCell_other, hgB, Ne.symm hgB]; with_reducible assumption)))
      | go_keep)
    (first
      | (go_at_call 16; (with_reducible refine (HC.out _).mono ?_); rintro e w' ⟨rfl, hb⟩; (have hg' := (hb.block g hgl).trans z0); (have y0 : w'.cell? ⟨g, 0, none⟩ = some (.string ⟨#[]⟩) := by simp [World.cell?, hg']); (have y1 : w'.cell? ⟨g, 1, none⟩ = some (.int .i64 0) := by simp [World.cell?, hg']); (have y2 : w'.cell? ⟨g, 2, none⟩ = some (.int .i64 0) := by simp [World.cell?, hg']); (have y3 : w'.cell? ⟨g, 3, none⟩ = some (.nilIface) := by simp [World.cell?, hg']); (have y4 : w'.cell? ⟨g, 4, none⟩ = some (.bool false) := by simp [World.cell?, hg']); (have y5 : w'.cell? ⟨g, 5, none⟩ = some (.nilFunc) := by simp [World.cell?, hg']); (have hfz : ∀ i, w'.frozen? ⟨g, i, none⟩ = false := fun i => free_c hg' i); clear hg'))
  go_wp2
  refine bodyPost_ret (v := fltV num op (.iface T V) fold) ?_ rfl ⟨rfl, ?_⟩
  · simp [results, Tryz.results9, go_sem, y0, y1, y2, y3, y4, y5, fltV]
  · exact (((((((Below.drew HBW.out).trans (hb.mono HBW.out.size)).setCell HGB.out _).setCell HGB.out _).setCell HGB.out _).setCell HGB.out _).setCell HGB.out _).setCell HGB.out _
end Go.Proofs.YtknjgopapbemcaaGreatDoor
