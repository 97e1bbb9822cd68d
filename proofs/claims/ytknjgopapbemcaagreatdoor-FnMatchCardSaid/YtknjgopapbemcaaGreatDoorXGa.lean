/- Ga: joined by merge.py for the claim. -/
import Derived.Test.YtknjgopapbemcaaGreatDoorXBaBb
import Derived.Test.YtknjgopapbemcaaGreatDoorXFe
import Derived.Test.YtknjgopapbemcaaGreatDoorXFfFg
import Derived.Laws.Externs
/- The package-level variables that the readers of floats look into; the small functions of internal/strconv. -/
namespace Go.Proofs.YtknjgopapbemcaaGreatDoor
open Go.RowKit
set_option linter.unusedVariables false
set_option linter.unusedSimpArgs false

/-- Powers of two for powers of ten. -/
def ptb : List Nat := [1, 3, 6, 9, 13, 16, 19, 23, 26]
/-- What the tables hold. -/
structure Gl (w : World) : Prop where
  sz : 20 ≤ w.heap.size
  p10 : ∀ i (h : i < Go.Pinned.pow10Rows.length), w.cell? ⟨15, i * 2, none⟩ = some (.int .u64 ((Go.Pinned.pow10Rows[i]).1 : Nat)) ∧ w.cell? ⟨15, i * 2 + 1, none⟩ = some (.int .u64 ((Go.Pinned.pow10Rows[i]).2 : Nat))

  fi0 : w.cell? ⟨11, 0, none⟩ = some (.int .u64 52)
  fi1 : w.cell? ⟨11, 1, none⟩ = some (.int .u64 11)
  fi2 : w.cell? ⟨11, 2, none⟩ = some (.int .i64 (-1023))
  opt : w.cell? ⟨10, 0, none⟩ = some (.bool true)
  f10 : ∃ P o c, P < w.heap.size ∧ w.cell? ⟨14, 0, none⟩ = some (.slice (some ⟨P, o, none⟩) 23 c) ∧ 23 ≤ c ∧ ∀ k, k < 23 → w.cell? ⟨P, o + k, none⟩ = some (.float .f64 (pw10.getD k 0))
  ptab : ∃ P o c, P < w.heap.size ∧ w.cell? ⟨13, 0, none⟩ = some (.slice (some ⟨P, o, none⟩) 9 c) ∧ 9 ≤ c ∧ ∀ k, k < 9 → w.cell? ⟨P, o + k, none⟩ = some (.int .i64 (ptb.getD k 0 : Nat))
  chts : ∃ P o c, P < w.heap.size ∧ w.cell? ⟨16, 0, none⟩ = some (.slice (some ⟨P, o, none⟩) 61 c) ∧ 61 ≤ c ∧ ∀ k (h : k < Go.Pinned.cheatRows.length), w.cell? ⟨P, o + k * 2, none⟩ = some (.int .i64 ((Go.Pinned.cheatRows[k]).1 : Nat)) ∧ w.cell? ⟨P, o + k * 2 + 1, none⟩ = some (.string ⟨(Go.Pinned.cheatRows[k]).2.toArray⟩)
  g9 : ∃ c t, w.heap[9]? = some (.cells c t (0, 0))
  g11 : ∃ c t, w.heap[11]? = some (.cells c t (0, 0))
theorem Gl.kept {w w' : World} (h : Gl w) (hs : w.heap.size ≤ w'.heap.size) (hk : ∀ b, b < w.heap.size → w'.heap[b]? = w.heap[b]?) : Gl w' := by
  have hc : ∀ b o, b < w.heap.size → w'.cell? ⟨b, o, none⟩ = w.cell? ⟨b, o, none⟩ := fun b o hb => World.cell?_of_block (hk b hb)
  have hz := h.sz
  obtain ⟨ca, ta, hg9⟩ := h.g9
  obtain ⟨cb, tb, hg11⟩ := h.g11
  obtain ⟨P, o, c, h1, h2, h3, h4⟩ := h.f10
  obtain ⟨P2, o2, c2, k1, k2, k3, k4⟩ := h.ptab
  obtain ⟨P3, o3, c3, l1, l2, l3, l4⟩ := h.chts
  exact ⟨Nat.le_trans hz hs, fun i hi => ⟨by rw [hc _ _ (by omega)]; exact (h.p10 i hi).1, by rw [hc _ _ (by omega)]; exact (h.p10 i hi).2⟩,
    by rw [hc _ _ (by omega)]; exact h.fi0, by rw [hc _ _ (by omega)]; exact h.fi1, by rw [hc _ _ (by omega)]; exact h.fi2, by rw [hc _ _ (by omega)]; exact h.opt,
    ⟨P, o, c, by omega, by rw [hc _ _ (by omega)]; exact h2, h3, fun k hk => by rw [hc _ _ h1]; exact h4 k hk⟩,
    ⟨P2, o2, c2, by omega, by rw [hc _ _ (by omega)]; exact k2, k3, fun k hk => by rw [hc _ _ k1]; exact k4 k hk⟩,
    ⟨P3, o3, c3, by omega, by rw [hc _ _ (by omega)]; exact l2, l3, fun k hk => ⟨by rw [hc _ _ l1]; exact (l4 k hk).1, by rw [hc _ _ l1]; exact (l4 k hk).2⟩⟩,
    ⟨ca, ta, by rw [hk 9 (by omega)]; exact hg9⟩, ⟨cb, tb, by rw [hk 11 (by omega)]; exact hg11⟩⟩
theorem Gl.below {w w' : World} (h : Gl w) (hb : Below w.heap.size w w') : Gl w' := h.kept hb.size fun b hlt => hb.block b hlt
theorem Gl.drewN {w : World} (h : Gl w) (n : Nat) : Gl (w.drewN n) := h.kept (Nat.le_refl _) fun b _ => rfl
theorem set_blk {w : World} {g i : Nat} {cs : Array Value} {x : Value} {T : TypeId} (h : w.heap[g]? = some (.cells cs T (0, 0))) :
    (w.setCell ⟨g, i, none⟩ x).heap[g]? = some (.cells (cs.setIfInBounds i x) T (0, 0)) := by
  have hlt := lt_of_block h
  have h' : w.heap[g] = .cells cs T (0, 0) := by simpa [Array.getElem?_eq_getElem hlt] using h
  show (w.heap.modify g _)[g]? = _
  rw [Array.getElem?_eq_getElem (by simpa using hlt), Array.getElem_modify_self, h']
  rfl
theorem b2_any (b : Bool) (w : World) : Calls Tryz.prog 99 #[.bool b] w fun e w' => e = .returned (.int .u64 (b.toNat : Nat)) ∧ w = w' := by
  cases b <;> go_enter Tryz.func99, Tryz.ntmps99 <;> go_wp2 <;> go_ret <;> exact ⟨rfl, rfl⟩

set_option maxHeartbeats 1000000 in
set_option maxRecDepth 100000 in
theorem prescale_any (g i : Nat) (e p lp : Int) (w : World) (u0 u1 u2 : Value) (hG : Gl w) (hi : i < Go.Pinned.pow10Rows.length) (hp : p = (i : Int) - 348) (he : -2000 ≤ e) (he2 : e ≤ 3000) (hl : -2000 ≤ lp) (hl2 : lp ≤ 2000)
    (hg40 : 20 ≤ g) (hg : w.heap[g]? = some (.cells #[u0, u1, u2] 189 (0, 0))) :
    Calls Tryz.prog 114 #[.pointer (some ⟨g, 0, none⟩), .int .i64 e, .int .i64 p, .int .i64 lp] w fun r w' => r = .returned (.tuple #[]) ∧ w'.heap[g]? = some (.cells #[.int .u64 ((Go.Pinned.pow10Rows[i]).1 : Nat), .int .u64 ((Go.Pinned.pow10Rows[i]).2 : Nat), .int .i64 (-(e + lp + 3))] 189 (0, 0)) ∧ Bel g w w' := by
  obtain ⟨h1, h2⟩ := hG.p10 i hi
  have hl696 : i < 696 := by rw [← rows_length]; exact hi
  generalize Go.Pinned.pow10Rows[i] = row at *
  have hne : 15 ≠ g := by omega
  have hc0 : w.cell? ⟨g, 0, none⟩ = some u0 := by simp [World.cell?, hg]
  have hc1 : w.cell? ⟨g, 1, none⟩ = some u1 := by simp [World.cell?, hg]
  have hc2 : w.cell? ⟨g, 2, none⟩ = some u2 := by simp [World.cell?, hg]
  have hf := free_c hg
  have HG := Hd.mk hg
  clear hg
  go_enter Tryz.func114, Tryz.ntmps114
  go_wp2
  go_end0
  refine ⟨rfl, ?_, (((Bel.refl _ _).set _ _).set _ _).set _ _⟩
  rw [set_blk (set_blk (set_blk HG.out))]
  rfl
end Go.Proofs.YtknjgopapbemcaaGreatDoor
