/- Ba Bb: joined by merge.py for the claim. -/
import Derived.Test.YtknjgopapbemcaaGreatDoorProg
import Derived.Test.YtknjgopapbemcaaGreatDoorXMaMf
import Derived.WalkKit
import Derived.KernelRfl
import Derived.RowKit3
import Derived.Below
import Derived.OneCell
import Derived.Laws.BitsAllLaws
import Derived.Maps.AppendAt
import Derived.OwnWalk
import Derived.Deep.LoopGhost
import Derived.Deep.QuietTactic
import Derived.BigQuiet
import Derived.Deep.DeepCutAuto
import Derived.Deep.CutBlock
import Derived.Deep.RegionWith
import Derived.Laws.Rows
import Derived.Laws.AppendOwn
import Derived.Laws.OwnMore
import Derived.WalkSpells
import Derived.WalkLawsBesides
/- Memory of a block of two cells (the plain decimal of lightstrconv): what its cells hold, and what it is behind a store. Helpers alone. -/
namespace Go.Proofs.YtknjgopapbemcaaGreatDoor
open Go.RowKit

/-- A fact laid aside: the walk does not look into it. -/
structure Hd (p : Prop) : Prop where mk :: (out : p)

theorem set_c0 {w : World} {g : Nat} {u v x : Value} {T : TypeId} (h : w.heap[g]? = some (.cells #[u, v] T (0, 0))) :
    (w.setCell ⟨g, 0, none⟩ x).heap[g]? = some (.cells #[x, v] T (0, 0)) := by
  have hlt := lt_of_block h
  have h' : w.heap[g] = .cells #[u, v] T (0, 0) := by simpa [Array.getElem?_eq_getElem hlt] using h
  show (w.heap.modify g _)[g]? = _
  rw [Array.getElem?_eq_getElem (by simpa using hlt), Array.getElem_modify_self, h']
  rfl
theorem set_c1 {w : World} {g : Nat} {u v x : Value} {T : TypeId} (h : w.heap[g]? = some (.cells #[u, v] T (0, 0))) :
    (w.setCell ⟨g, 1, none⟩ x).heap[g]? = some (.cells #[u, x] T (0, 0)) := by
  have hlt := lt_of_block h
  have h' : w.heap[g] = .cells #[u, v] T (0, 0) := by simpa [Array.getElem?_eq_getElem hlt] using h
  show (w.heap.modify g _)[g]? = _
  rw [Array.getElem?_eq_getElem (by simpa using hlt), Array.getElem_modify_self, h']
  rfl
theorem at_c0 {w : World} {g : Nat} {u v : Value} {T : TypeId} (h : w.heap[g]? = some (.cells #[u, v] T (0, 0))) : w.cell? ⟨g, 0, none⟩ = some u := by simp [World.cell?, h]
theorem at_c1 {w : World} {g : Nat} {u v : Value} {T : TypeId} (h : w.heap[g]? = some (.cells #[u, v] T (0, 0))) : w.cell? ⟨g, 1, none⟩ = some v := by simp [World.cell?, h]
theorem free_c {w : World} {g : Nat} {cs : Array Value} {T : TypeId} (h : w.heap[g]? = some (.cells cs T (0, 0))) (i : Nat) : w.frozen? ⟨g, i, none⟩ = false := by simp [World.frozen?, h]

/-- Digits as cells. -/
def dcells (ds : List Nat) : List Value := ds.map fun d : Nat => Value.int .u8 (d : Int)

/-- A decimal of lightstrconv at block g: its digits, its point. -/
structure Dc (w : World) (g : Nat) (ds : List Nat) (dp : Int) : Prop where
  ex : ∃ b n c, w.heap[g]? = some (.cells #[.slice (some ⟨b, 0, none⟩) ds.length c, .int .i64 dp] 151 (0, 0)) ∧ b ≠ g ∧ ds.length ≤ c ∧ n = ds.length ∧
    (∀ i, i < n → w.cell? ⟨b, i, none⟩ = some (.int .u8 (dg ds i : Nat)))

theorem Dc.mk' {w : World} {g b c : Nat} {l : List Nat} {n : Nat} {dp : Int} (hn : n = l.length) (hg : w.heap[g]? = some (.cells #[.slice (some ⟨b, 0, none⟩) n c, .int .i64 dp] 151 (0, 0)))
    (hb : b ≠ g) (hc : n ≤ c) (hcell : ∀ i, i < n → w.cell? ⟨b, i, none⟩ = some (.int .u8 (dg l i : Nat))) : Dc w g l dp := by
  subst hn
  exact ⟨b, l.length, c, hg, hb, hc, rfl, hcell⟩

theorem cell_other {w : World} {g b o i : Nat} {v : Value} (hb : b ≠ g) : (w.setCell ⟨g, o, none⟩ v).cell? ⟨b, i, none⟩ = w.cell? ⟨b, i, none⟩ :=
  World.cell?_of_block (Below.heap_setCell _ _ _ _ hb)

theorem below_drewN {B : Nat} {a w : World} (h : Below B a w) (n : Nat) : Below B a (w.drewN n) := ⟨h.os, h.tape, h.output, h.size, h.block⟩
theorem heap_drewN (w : World) (n : Nat) : (w.drewN n).heap = w.heap := rfl
theorem cell_drewN (w : World) (n : Nat) (a : Addr) : (w.drewN n).cell? a = w.cell? a := rfl

/-- All blocks that were there stand, but block g. -/
structure Bel (g : Nat) (w w' : World) : Prop where
  os : w'.os = w.os
  tape : w'.tape = w.tape
  output : w'.output = w.output
  size : w.heap.size ≤ w'.heap.size
  block : ∀ k, k < w.heap.size → k ≠ g → w'.heap[k]? = w.heap[k]?
theorem Bel.refl (g : Nat) (w : World) : Bel g w w := ⟨rfl, rfl, rfl, Nat.le_refl _, fun _ _ _ => rfl⟩
theorem Bel.trans {g : Nat} {a b c : World} (h : Bel g a b) (k : Bel g b c) : Bel g a c :=
  ⟨k.os.trans h.os, k.tape.trans h.tape, k.output.trans h.output, Nat.le_trans h.size k.size, fun i hi hg => (k.block i (Nat.lt_of_lt_of_le hi h.size) hg).trans (h.block i hi hg)⟩
theorem Bel.trans_below {g : Nat} {a b c : World} (h : Bel g a b) (k : Below a.heap.size b c) : Bel g a c :=
  ⟨k.os.trans h.os, k.tape.trans h.tape, k.output.trans h.output, Nat.le_trans h.size k.size, fun i hi hg => (k.block i hi).trans (h.block i hi hg)⟩
theorem Bel.drew {g : Nat} {a w : World} (h : Bel g a w) : Bel g a w.drew := ⟨h.os, h.tape, h.output, h.size, h.block⟩
theorem Bel.drewN {g : Nat} {a w : World} (h : Bel g a w) (n : Nat) : Bel g a (w.drewN n) := ⟨h.os, h.tape, h.output, h.size, h.block⟩
theorem Bel.set {g : Nat} {a w : World} (h : Bel g a w) (j : Nat) (u : Value) : Bel g a (w.setCell ⟨g, j, none⟩ u) :=
  h.trans ⟨rfl, rfl, rfl, by simp [World.setCell], fun k _ hk => Below.heap_setCell _ _ _ _ hk⟩
theorem Bel.of_below {g : Nat} {w w' : World} (h : Below w.heap.size w w') : Bel g w w' := ⟨h.os, h.tape, h.output, h.size, fun k hk _ => h.block k hk⟩
theorem Bel.below {g : Nat} {w w' : World} (h : Bel g w w') : Below (min g w.heap.size) w w' := ⟨h.os, h.tape, h.output, h.size, fun k hk => h.block k (by omega) (by omega)⟩
theorem Bel.cell {g : Nat} {w w' : World} (h : Bel g w w') {p : Addr} (hp : p.block < w.heap.size) (hg : p.block ≠ g) : w'.cell? p = w.cell? p := World.cell?_of_block (h.block p.block hp hg)
theorem Bel.frozen {g : Nat} {w w' : World} (h : Bel g w w') {p : Addr} (hp : p.block < w.heap.size) (hg : p.block ≠ g) : w'.frozen? p = w.frozen? p := World.frozen?_of_block (h.block p.block hp hg)

theorem dc_cut {w : World} {g b c m : Nat} {ds : List Nat} {dp : Int} (hm : m + 1 ≤ ds.length) (hg : w.heap[g]? = some (.cells #[.slice (some ⟨b, 0, none⟩) (m + 1) c, .int .i64 dp] 151 (0, 0)))
    (hb : b ≠ g) (hc : m + 1 ≤ c) (hcell : ∀ i, i < m + 1 → w.cell? ⟨b, i, none⟩ = some (.int .u8 (dg (ds.take (m + 1)) i : Nat))) (n : Nat) :
    Dc ((w.drewN n).setCell ⟨g, 0, none⟩ (.slice (some ⟨b, 0, none⟩) m c)) g (ds.take m) dp := by
  refine Dc.mk' (n := m) (b := b) (c := c) (by rw [List.length_take]; omega) (set_c0 (by rw [heap_drewN]; exact hg)) hb (by omega) ?_
  intro i hi
  rw [cell_other hb, cell_drewN, hcell i (by omega)]
  rw [dg_take (by omega), dg_take hi]

/-- Bytes of the call's own, from block B on. (A plain name: the walk does not open it.) -/
structure Own8 (w : World) (B : Nat) (v : Value) (l : List Nat) : Prop where
  row : w.ownsRow B 5 1 v l.length (dcells l)
theorem own8_nil (w : World) (B : Nat) : Own8 w B (.slice none 0 0) [] := ⟨World.ownsRow_nil _ _ _ _⟩

theorem Own8.shape {w : World} {B : Nat} {v : Value} {l : List Nat} (h : Own8 w B v l) : ∃ A c, v = .slice A l.length c := by
  rcases h.row.2 with ⟨rfl, h0⟩ | ⟨g, cap, cur, rfl, _⟩
  · exact ⟨none, 0, by rw [h0]⟩
  · exact ⟨_, _, rfl⟩
theorem Own8.cells {w : World} {B : Nat} {v : Value} {l : List Nat} (h : Own8 w B v l) (hl : 0 < l.length) : ∃ b c, v = .slice (some ⟨b, 0, none⟩) l.length c ∧ B ≤ b ∧ b < w.heap.size ∧ l.length ≤ c ∧ ∀ i, i < l.length → w.cell? ⟨b, i, none⟩ = some (.int .u8 (dg l i : Nat)) := by
  rcases h.row.2 with ⟨rfl, h0⟩ | ⟨g, cap, cur, rfl, hB, hg, hc, _, _, htake⟩
  · omega
  · refine ⟨g, cap, rfl, hB, lt_of_block hg, hc, fun i hi => ?_⟩
    have e := h.row.cells (g := g) rfl i (.int .u8 (dg l i : Nat)) (by
      unfold dcells dg
      rw [List.getElem?_map, List.getD_eq_getElem?_getD, List.getElem?_eq_getElem hi]; rfl)
    have ea : (⟨g, 0, none⟩ : Addr).add i = ⟨g, i, none⟩ := by unfold Addr.add; split <;> simp_all
    rw [ea] at e
    exact e
theorem Own8.below {w w' : World} {B : Nat} {v : Value} {l : List Nat} (h : Own8 w B v l) (hb : Below w.heap.size w w') : Own8 w' B v l :=
  ⟨h.row.kept (row := none) ⟨hb.os, hb.tape, hb.output, hb.size, fun k hk _ => hb.block k hk⟩ (by cases hv : v.ownBlock <;> simp)⟩

/-- n & (2^k - 1). -/
theorem u64_mask (n P k : Nat) (hn : n < 18446744073709551616) (hP : P ≤ 9223372036854775808) (hPk : (2 : Int) ^ k = (P : Int)) : bits .and .u64 (n : Int) ((P : Int) - 1) = ((n % P : Nat) : Int) := by
  have hPk' : P = 2 ^ k := by
    have : ((2 ^ k : Nat) : Int) = (P : Int) := by rw [← hPk]; exact Int.natCast_pow 2 k
    omega
  have h1 : 0 < P := by rw [hPk']; exact Nat.two_pow_pos _
  have e : ((P : Int) - 1) = ((P - 1 : Nat) : Int) := by omega
  rw [e, u64_and_nat _ _ hn (by omega), hPk', Nat.and_two_pow_sub_one_eq_mod]

theorem A5 : (Tryz.prog.info? 5).map (fun i => (i.zero, i.size, i.bytes)) = some (some (.int .u8 0), 1, 1) := by kernel_rfl

/-- append(xs, y) on bytes of the call's own. -/
theorem wpList_app8 {ops : Array Oper} {rest : List Oper} {o : Oper} {a : Act} {Q : Exit → Act → World → Prop} {w : World} (hgd : o.guard = none) (s x : Operand)
    (ho : o.op = .call { callee := .builtin .append, args := #[s, x], argTypes := #[70, 70] })
    (base : Nat) (v : Value) (xs : List Nat) (hs : a.eval s = v) (hown : w.ownsRow base 5 1 v xs.length (dcells xs))
    (ad : Addr) (y : Nat) (hx : a.eval x = .slice (some ad) 1 1) (hnew : ∀ j u, [Value.int .u8 (y : Int)][j]? = some u → w.cell? (ad.add j) = some u)
    (hlen : xs.length ≤ 1000000000) (hbase : base ≤ w.heap.size)
    (h : ∀ v' w', w'.ownsRow base 5 1 v' (xs ++ [y]).length (dcells (xs ++ [y])) → w.grownBy w' v.ownBlock → wpList Tryz.prog ops Q rest (a.put o.dst v') w') : wpList Tryz.prog ops Q (o :: rest) a w := by
  obtain ⟨i, hi, hz0, hz1, hz2⟩ := info_parts A5
  refine wpList_append_own w hgd s x 70 ho base 5 i (.int .u8 0) 1 1 Tryz.underlying70 hi hz0 hz1 hz2 rfl (by decide) v xs.length (dcells xs) hs hown ad 1 1 [.int .u8 (y : Int)] hx rfl hnew (by simp [Value.oneCell']) (by unfold maxLen; omega) (by omega) hbase ?_
  intro v' w' h1 h2 _
  refine h v' w' ?_ h2
  have e : dcells (xs ++ [y]) = dcells xs ++ [Value.int .u8 (y : Int)] := by simp [dcells]
  rw [List.length_append, e]
  exact h1

end Go.Proofs.YtknjgopapbemcaaGreatDoor
/- Bits of 64-bit numbers. Helpers alone. -/
namespace Go.Proofs.YtknjgopapbemcaaGreatDoor
open Go.RowKit
theorem and_bit_lo {n i : Nat} (h : n < 2 ^ i) : n &&& 2 ^ i = 0 := by
  apply Nat.eq_of_testBit_eq
  intro j
  rw [Nat.testBit_and, Nat.testBit_two_pow, Nat.zero_testBit]
  by_cases e : i = j
  · subst e; rw [Nat.testBit_lt_two_pow h]; rfl
  · simp [e]
theorem and_bit_hi {n i : Nat} (h : 2 ^ i ≤ n) (h2 : n < 2 ^ (i + 1)) : n &&& 2 ^ i = 2 ^ i := by
  apply Nat.eq_of_testBit_eq
  intro j
  rw [Nat.testBit_and, Nat.testBit_two_pow]
  by_cases e : i = j
  · subst e; rw [Nat.testBit_of_two_pow_le_and_two_pow_add_one_gt h h2]; rfl
  · simp [e]
theorem u64_bit52_lo {n : Nat} (h : n < 4503599627370496) : bits .and .u64 (n : Int) 4503599627370496 = 0 := by
  have e := u64_and_nat n 4503599627370496 (by omega) (by omega)
  have e2 : n &&& 4503599627370496 = 0 := and_bit_lo (i := 52) h
  rw [e2] at e
  exact e
theorem u64_bit52_hi {n : Nat} (h : 4503599627370496 ≤ n) (h2 : n < 9007199254740992) : bits .and .u64 (n : Int) 4503599627370496 = 4503599627370496 := by
  have e := u64_and_nat n 4503599627370496 (by omega) (by omega)
  have e2 : n &&& 4503599627370496 = 4503599627370496 := and_bit_hi (i := 52) h h2
  rw [e2] at e
  exact e
theorem u64_low52 {n : Nat} (h : n < 4503599627370496) : bits .and .u64 (n : Int) 4503599627370495 = (n : Int) := by
  have := u64_mask n 4503599627370496 52 (by omega) (by omega) (by rfl)
  rw [show ((4503599627370496 : Nat) : Int) - 1 = 4503599627370495 by rfl] at this
  rw [this, Nat.mod_eq_of_lt h]
theorem u64_low52' {n : Nat} (h : 4503599627370496 ≤ n) (h2 : n < 9007199254740992) : bits .and .u64 (n : Int) 4503599627370495 = ((n - 4503599627370496 : Nat) : Int) := by
  have := u64_mask n 4503599627370496 52 (by omega) (by omega) (by rfl)
  rw [show ((4503599627370496 : Nat) : Int) - 1 = 4503599627370495 by rfl] at this
  have hm : n % 4503599627370496 = n - 4503599627370496 := by omega
  rw [this, hm]
theorem u64_or52 {a b : Nat} (ha : a < 4503599627370496) (hb : b ≤ 4095) : bits .or .u64 (a : Int) ((b : Int) * 4503599627370496) = ((b * 4503599627370496 + a : Nat) : Int) := by
  have e := u64_or_nat a (4503599627370496 * b) (by omega) (by omega)
  have e2 := Nat.two_pow_add_eq_or_of_lt (i := 52) (b := a) ha b
  rw [show (2 : Nat) ^ 52 = 4503599627370496 from rfl] at e2
  rw [Nat.or_comm, ← e2] at e
  rw [show ((b : Int) * 4503599627370496) = ((4503599627370496 * b : Nat) : Int) by omega, e]
  omega
theorem u64_or0 {a : Nat} (ha : a < 4503599627370496) : bits .or .u64 (a : Int) 0 = (a : Int) := by
  have e := u64_or_nat a 0 (by omega) (by omega)
  rw [Nat.or_zero] at e
  exact e
end Go.Proofs.YtknjgopapbemcaaGreatDoor
