/- Lj Lk Ll: joined by merge.py for the claim. -/
import Derived.Test.YtknjgopapbemcaaGreatDoorXLi
import Derived.Laws.IdiomStrings
import Derived.Test.YtknjgopapbemcaaGreatDoorXPaPe
/- Walks of lightstrconv's FormatUint and newDecimal. -/
namespace Go.Proofs.YtknjgopapbemcaaGreatDoor
open Go.RowKit
set_option linter.unusedVariables false
set_option linter.unusedSimpArgs false
/-- A number's decimal digits, as bytes. -/
def fu (n : Nat) : List Nat := if h : n < 10 then [48 + n] else fu (n / 10) ++ [48 + n % 10]
  decreasing_by omega
theorem fu_lo {n : Nat} (h : n < 10) : fu n = [48 + n] := by rw [fu, dif_pos h]
theorem fu_hi {n : Nat} (h : ¬ n < 10) : fu n = fu (n / 10) ++ [48 + n % 10] := by rw [fu, dif_neg h]
structure FuInv (g : Nat) (w0 w : World) (n0 n i : Nat) (out : List Nat) : Prop where
  le : i ≤ 64
  ge : 44 ≤ i
  lt : n < 10 ^ (i - 44)
  eq : (i = 64 ∧ n = n0) ∨ (i < 64 ∧ fu n0 = (if n = 0 then [] else fu n) ++ out)
  len : out.length = 64 - i
  isS : ∀ j, j < 64 → ∃ v, w.cell? ⟨g, j, none⟩ = some v
  fz : ∀ j, w.frozen? ⟨g, j, none⟩ = false
  cell : ∀ j, j < 64 - i → w.cell? ⟨g, i + j, none⟩ = some (.int .u8 (bt out j : Nat))
  bel : Below w0.heap.size w0 w
  gB : w0.heap.size ≤ g
  lt256 : ∀ j, bt out j < 256
def dgs : ByteArray := { data := #[48, 49, 50, 51, 52, 53, 54, 55, 56, 57, 97, 98, 99, 100, 101, 102, 103, 104, 105, 106, 107, 108, 109, 110, 111, 112, 113, 114, 115, 116, 117, 118, 119, 120, 121, 122] }
theorem dgs_at (m : Nat) (h : m < dgs.size) (h2 : m < 10) : (dgs[m]'h).toNat = 48 + m := by
  have : ∀ i : Fin 10, ∀ h : i.val < dgs.size, (dgs[i.val]'h).toNat = 48 + i.val := by decide +kernel
  exact this ⟨m, h2⟩ h
theorem set_ne {w : World} {g i j : Nat} {x : Value} (h : i ≠ j) : (w.setCell ⟨g, i, none⟩ x).cell? ⟨g, j, none⟩ = w.cell? ⟨g, j, none⟩ :=
  World.cell?_setCell_other w _ _ _ (by intro e; exact h (Addr.mk.inj e).2.1)
theorem bt_cons0 (y : Nat) (l : List Nat) : bt (y :: l) 0 = y := rfl
theorem bt_cons (y : Nat) (l : List Nat) (j : Nat) : bt (y :: l) (j + 1) = bt l j := rfl
theorem FuInv.next {g : Nat} {w0 w : World} {n0 n k y : Nat} {out : List Nat} (h : FuInv g w0 w n0 n (k + 1) out) (hg : k + 1 = 64 ∨ 0 < n) (hy : y = 48 + n % 10) :
    FuInv g w0 (w.setCell ⟨g, k, none⟩ (.int .u8 (y : Nat))) n0 (n / 10) k (y :: out) := by
  have hge := h.ge
  have hle := h.le
  have hlt := h.lt
  have hk : 44 ≤ k := by
    rcases hg with hg | hg
    · omega
    · rcases Nat.lt_or_ge k 44 with h1 | h1
      · rw [show k + 1 - 44 = 0 by omega, Nat.pow_zero] at hlt; omega
      · exact h1
  obtain ⟨v, hv⟩ := h.isS k (by omega)
  refine ⟨by omega, hk, ?_, .inr ⟨by omega, ?_⟩, by rw [List.length_cons, h.len]; omega, ?_, fun j => by rw [World.frozen?_setCell]; exact h.fz j, ?_, ?_, h.gB, ?_⟩
  · rw [show k + 1 - 44 = (k - 44) + 1 by omega, Nat.pow_succ] at hlt
    omega
  · have e : fu n = (if n / 10 = 0 then [] else fu (n / 10)) ++ [y] := by
      by_cases h10 : n < 10
      · rw [fu_lo h10, if_pos (by omega), hy]; simp; omega
      · rw [fu_hi h10, if_neg (by omega), hy]
    rcases h.eq with ⟨h1, h2⟩ | ⟨h1, h2⟩
    · have h3 : out = [] := List.eq_nil_of_length_eq_zero (by rw [h.len]; omega)
      rw [← h2, e, h3]
    · rw [h2, if_neg (by omega), e, List.append_assoc]; rfl
  · intro j hj
    by_cases e : k = j
    · subst e; exact ⟨_, World.cell?_setCell_same _ _ _ hv⟩
    · rw [set_ne e]; exact h.isS j hj
  · intro j hj
    cases j with
    | zero => rw [Nat.add_zero, World.cell?_setCell_same _ _ _ hv]; rfl
    | succ j => rw [set_ne (by omega), bt_cons, show k + (j + 1) = k + 1 + j by omega]; exact h.cell j (by omega)
  · exact h.bel.setCell h.gB _
  · intro j
    cases j with
    | zero => rw [bt_cons0]; omega
    | succ j => rw [bt_cons]; exact h.lt256 j

theorem tx_mk (l : List Nat) (h : ∀ j, bt l j < 256) : tx ⟨(l.map UInt8.ofNat).toArray⟩ = l := by
  unfold tx
  simp only [List.map_map]
  conv => rhs; rw [← List.map_id l]
  apply List.map_congr_left
  intro x hx
  obtain ⟨j, hj, rfl⟩ := List.getElem_of_mem hx
  have := h j
  unfold bt at this
  rw [List.getD_eq_getElem?_getD, List.getElem?_eq_getElem hj] at this
  have h2 : l[j] < 256 := this
  simp [UInt8.toNat_ofNat, Nat.mod_eq_of_lt h2]
theorem FuInv.text {g : Nat} {w0 w : World} {n0 n k cap len : Nat} {out : List Nat} (h : FuInv g w0 w n0 n k out) (hl : len = 64 - k) :
    (convert 70 9 (.slice (some ⟨g, k, none⟩) len cap)).run Tryz.prog w = .ok (.string ⟨(out.map UInt8.ofNat).toArray⟩) w := by
  have e := run_convert_bytes_back (P := Tryz.prog) w 70 9 5 ⟨g, k, none⟩ cap (out.map UInt8.ofNat) Tryz.underlying70 Tryz.underlying5 Tryz.underlying9 (by
    intro j hj
    rw [List.length_map] at hj
    have h1 := h.cell j (by rw [← h.len]; exact hj)
    have ea : (⟨g, k, none⟩ : Addr).add j = ⟨g, k + j, none⟩ := by unfold Addr.add; split <;> simp_all
    rw [ea, h1]
    have h2 := h.lt256 j
    unfold bt at h2 ⊢
    rw [List.getD_eq_getElem?_getD, List.getElem?_eq_getElem hj] at h2 ⊢
    have h3 : out[j] < 256 := h2
    simp [Nat.mod_eq_of_lt h3])
  rw [List.length_map, h.len, ← hl] at e
  exact e
theorem FuInv.done {g : Nat} {w0 w : World} {n0 n k : Nat} {out : List Nat} (h : FuInv g w0 w n0 n k out) (h0 : n = 0) (hk : ¬ k = 64) : tx ⟨(out.map UInt8.ofNat).toArray⟩ = fu n0 := by
  rw [tx_mk _ h.lt256]
  rcases h.eq with ⟨h1, h2⟩ | ⟨h1, h2⟩
  · exact absurd h1 hk
  · rw [h2, if_pos h0]; rfl
theorem fu_start {w : World} {g n0 : Nat} (cs : Array Value) (hn : n0 < 18446744073709551616) (hg : g = w.heap.size) (hcs : cs.size = 64) : FuInv g w (w.alloc (.cells cs 200)) n0 n0 64 [] := by
  subst hg
  refine ⟨by omega, by omega, by omega, .inl ⟨rfl, rfl⟩, rfl, ?_, ?_, fun j hj => by omega, (Below.refl _ _).alloc (Nat.le_refl _) _, Nat.le_refl _, fun j => by unfold bt; simp⟩
  · intro j hj
    exact ⟨cs[j], by rw [World.cell?_alloc_at _ _ _ _ rfl, Array.getElem?_eq_getElem (by omega)]⟩
  · intro j
    unfold World.frozen?
    rw [show (w.alloc (.cells cs 200)).heap[w.heap.size]? = some (.cells cs 200) from heap_alloc_new _ _]
    simp

theorem al200 : Tryz.prog.arrayLen 200 = 64 := by kernel_rfl
theorem el200 : Tryz.prog.elem 200 = 5 := by kernel_rfl
theorem un200 : Tryz.prog.underlying 200 = some (.array 64 5) := by kernel_rfl
theorem sl200 (w : World) (g k : Nat) (hk : k + 1 < 64) : (Instr.sliceAt 200 (.pointer (some ⟨g, 0, none⟩)) (some (.int .i64 ((k : Int) + 1))) none none).run Tryz.prog w = .ok (.slice (some ⟨g, k + 1, none⟩) (64 - (k + 1)) (64 - (k + 1))) w := by
  have h := run_sliceAt_array_l (P := Tryz.prog) w 200 ⟨g, 0, none⟩ (by rw [al200, el200]; exact un200) .i64 ((k : Int) + 1) (by omega) (by rw [al200]; omega)
  obtain ⟨i, hi, _⟩ := info_parts A5
  rw [h, al200, el200, run_sizeOf w hi, show Tryz.prog.cellsOf 5 = 1 by kernel_rfl]
  have e : ((k : Int) + 1).toNat = k + 1 := by omega
  simp only [Result.andThen, slicedAt, e, Nat.mul_one]
  rw [if_neg (by omega)]
  unfold Addr.add
  rw [if_neg (by omega)]
  simp
set_option maxHeartbeats 1000000 in
set_option maxRecDepth 100000 in
theorem formatUint_any (n0 : Nat) (w : World) (hn : n0 < 18446744073709551616) :
    Calls Tryz.prog 104 #[.int .u64 (n0 : Int), .int .i64 10] w fun e w' => (∃ t : ByteArray, e = .returned (.string t) ∧ tx t = fu n0) ∧ Below w.heap.size w w' := by
  go_enter Tryz.func104, Tryz.ntmps104
  go_wp2_with fail
  go_loopg [0, 6] 64 (fun m v0 v6 wr => ∃ (n i : Nat) (out : List Nat), v0 = .int .u64 n ∧ v6 = .int .i64 i ∧ i = m ∧ FuInv w.heap.size w wr n0 n i out ∧ n < 18446744073709551616)
  case atStart => exact ⟨n0, 64, [], rfl, rfl, rfl, fu_start _ hn rfl rfl, hn⟩
  case round =>
    obtain ⟨n, i, out, rfl, rfl, rfl, HI, hn2⟩ := hrel
    have hle := HI.le
    have hge := HI.ge
    have H := Hd.mk HI
    obtain ⟨k, rfl⟩ : ∃ k, i = k + 1 := ⟨i - 1, by omega⟩
    obtain ⟨v, hv⟩ := HI.isS k (by omega)
    have hf := HI.fz k
    clear HI
    have hm : (((k + 1 : Nat) : Int)) - 1 = (k : Int) := by omega
    have hw : IntKind.u64.wrap ((n : Int) / 10) = ((n / 10 : Nat) : Int) := by rw [u64_fit (by omega) (by omega)]; omega
    by_cases h64 : k + 1 = 64
    · obtain rfl : k = 63 := by omega
      go_wp2_with fail
      go_roundg 63
      case measure => omega
      case rel => exact ⟨n / 10, 63, _, by go_num, rfl, rfl, H.out.next (.inl rfl) (dgs_at _ _ (by omega)), by omega⟩
    · have hb64 : (((k + 1 : Nat) : Int) == 64) = false := by simp; omega
      by_cases hn0 : 0 < n
      · have hb0 : decide ((0 : Int) < (n : Int)) = true := by simp; omega
        go_wp2_with fail
        go_roundg k
        case measure => omega
        case rel => exact ⟨n / 10, k, _, by go_num, rfl, rfl, H.out.next (.inr hn0) (dgs_at _ _ (by omega)), by omega⟩
      · have hb0 : decide ((0 : Int) < (n : Int)) = false := by simp; omega
        have hcv := fun cap => H.out.text (cap := cap) (len := 63 - k) (by omega)
        have hsl := sl200 wr w.heap.size k (by omega)
        go_wp2_with fail
        go_ret
        exact ⟨⟨_, rfl, H.out.done (by omega) h64⟩, H.out.bel⟩
theorem fu_len : ∀ m n : Nat, n < 10 ^ (m + 1) → (fu n).length ≤ m + 1
  | 0, n, h => by rw [fu_lo (by simpa using h)]; simp
  | m + 1, n, h => by
    by_cases h10 : n < 10
    · rw [fu_lo h10]; simp
    · rw [fu_hi h10, List.length_append]
      have := fu_len m (n / 10) (by rw [Nat.pow_succ] at h; omega)
      simp; omega
end Go.Proofs.YtknjgopapbemcaaGreatDoor
/- A decimal that grows: append(a.d, d), and newDecimal. -/
namespace Go.Proofs.YtknjgopapbemcaaGreatDoor
open Go.RowKit
set_option linter.unusedVariables false
set_option linter.unusedSimpArgs false
/-- A decimal under way: its digits lie in a row of the call's own, from w1's end on. -/
structure Gr (w1 w : World) (g : Nat) (v : Value) (l : List Nat) (dp : Int) : Prop where
  blk : w.heap[g]? = some (.cells #[v, .int .i64 dp] 151 (0, 0))
  own : Own8 w w1.heap.size v l
  lt : g < w1.heap.size
  bel : Bel g w1 w
theorem Gr.start {w1 : World} {g : Nat} (hg : w1.heap[g]? = some (.cells #[.slice none 0 0, .int .i64 0] 151 (0, 0))) : Gr w1 w1 g (.slice none 0 0) [] 0 :=
  ⟨hg, own8_nil _ _, lt_of_block hg, Bel.refl _ _⟩
/-- What stands behind an append to its digits. -/
structure Gr2 (w1 w : World) (g : Nat) (v v2 : Value) (l : List Nat) (dp : Int) : Prop where
  blk : w.heap[g]? = some (.cells #[v, .int .i64 dp] 151 (0, 0))
  own : Own8 w w1.heap.size v2 l
  lt : g < w1.heap.size
  bel : Bel g w1 w
theorem Gr.app {w1 wr w2 : World} {g y : Nat} {v v2 : Value} {l : List Nat} {dp : Int} {o : Obj} (h : Gr w1 wr g v l dp) (hg : (wr.alloc o).grownBy w2 v.ownBlock) (ho : w2.ownsRow w1.heap.size 5 1 v2 (l ++ [y]).length (dcells (l ++ [y]))) :
    Gr2 w1 w2 g v v2 (l ++ [y]) dp := by
  have hs := h.bel.size
  have key : ∀ k, k < w1.heap.size → w2.heap[k]? = wr.heap[k]? := by
    intro k hk
    have e1 := hg.block k (by simp; omega) (by
      intro e
      have := (h.own.row.lt k e.symm).1
      omega)
    rw [e1]; exact Below.heap_alloc wr o k (by omega)
  refine ⟨by rw [key g h.lt]; exact h.blk, ⟨ho⟩, h.lt, ⟨hg.os.trans h.bel.os, hg.tape.trans h.bel.tape, hg.output.trans h.bel.output, ?_, fun k hk hne => by rw [key k hk]; exact h.bel.block k hk hne⟩⟩
  have := hg.size
  simp at this
  omega
theorem Gr2.set {w1 w2 : World} {g : Nat} {v v2 : Value} {l : List Nat} {dp : Int} (h : Gr2 w1 w2 g v v2 l dp) : Gr w1 (w2.setCell ⟨g, 0, none⟩ v2) g v2 l dp :=
  ⟨set_c0 h.blk, ⟨ownsRow_setCell_below h.own.row h.lt _⟩, h.lt, h.bel.set _ _⟩
theorem Gr2.c0 {w1 w2 : World} {g : Nat} {v v2 : Value} {l : List Nat} {dp : Int} (h : Gr2 w1 w2 g v v2 l dp) : w2.cell? ⟨g, 0, none⟩ = some v := at_c0 h.blk
theorem Gr2.fz {w1 w2 : World} {g : Nat} {v v2 : Value} {l : List Nat} {dp : Int} (h : Gr2 w1 w2 g v v2 l dp) (i : Nat) : w2.frozen? ⟨g, i, none⟩ = false := free_c h.blk i
theorem Gr.setP {w1 w : World} {g : Nat} {v : Value} {l : List Nat} {dp : Int} (h : Gr w1 w g v l dp) (dp' : Int) : Gr w1 (w.setCell ⟨g, 1, none⟩ (.int .i64 dp')) g v l dp' :=
  ⟨set_c1 h.blk, ⟨ownsRow_setCell_below h.own.row h.lt _⟩, h.lt, h.bel.set _ _⟩
theorem Gr.dc {w1 w : World} {g : Nat} {v : Value} {l : List Nat} {dp : Int} (h : Gr w1 w g v l dp) (hl : 0 < l.length) : Dc w g l dp := by
  obtain ⟨b, c, rfl, hb, hlt, hc, hcell⟩ := h.own.cells hl
  have := h.lt
  exact Dc.mk' (b := b) (c := c) rfl h.blk (by omega) hc hcell

/-- Decimal digits by their values. -/
def fd (n : Nat) : List Nat := (fu n).map fun c => c - 48
theorem fu_dig : ∀ m n : Nat, n < 10 ^ (m + 1) → ∀ i, i < (fu n).length → 48 ≤ bt (fu n) i ∧ bt (fu n) i ≤ 57
  | 0, n, h, i, hi => by
    rw [fu_lo (by simpa using h)] at hi ⊢
    simp at hi h; subst hi; show 48 ≤ 48 + n ∧ 48 + n ≤ 57; omega
  | m + 1, n, h, i, hi => by
    by_cases h10 : n < 10
    · rw [fu_lo h10] at hi ⊢
      simp at hi; subst hi; show 48 ≤ 48 + n ∧ 48 + n ≤ 57; omega
    · rw [fu_hi h10] at hi ⊢
      have ih := fu_dig m (n / 10) (by rw [Nat.pow_succ] at h; omega)
      rw [List.length_append] at hi
      by_cases hl : i < (fu (n / 10)).length
      · have := ih i hl
        unfold bt at this ⊢
        rw [List.getD_eq_getElem?_getD, List.getElem?_append_left hl, ← List.getD_eq_getElem?_getD]; exact this
      · have e : i = (fu (n / 10)).length := by simp at hi; omega
        subst e
        unfold bt
        rw [List.getD_eq_getElem?_getD, List.getElem?_append_right (Nat.le_refl _), Nat.sub_self]
        show 48 ≤ 48 + n % 10 ∧ 48 + n % 10 ≤ 57; omega
theorem fd_snoc {n k : Nat} (h : k < (fu n).length) : (fd n).take (k + 1) = (fd n).take k ++ [bt (fu n) k - 48] := by
  unfold fd
  rw [← List.map_take, take_snoc_bt h, List.map_append, List.map_take]; rfl
theorem fd_len (n : Nat) : (fd n).length = (fu n).length := by unfold fd; rw [List.length_map]
theorem dn_fd : ∀ m n : Nat, n < 10 ^ (m + 1) → dn (fd n) = n
  | 0, n, h => by rw [fd, fu_lo (by simpa using h)]; simp [dn]
  | m + 1, n, h => by
    by_cases h10 : n < 10
    · rw [fd, fu_lo h10]; simp [dn]
    · have ih := dn_fd m (n / 10) (by rw [Nat.pow_succ] at h; omega)
      unfold fd at ih ⊢
      rw [fu_hi h10, List.map_append, List.map_cons, List.map_nil, dn_snoc, ih]; omega
theorem fd_pos (n : Nat) : 0 < (fd n).length := by
  rw [fd_len]
  by_cases h : n < 10
  · rw [fu_lo h]; simp
  · rw [fu_hi h]; simp
theorem fd_first : ∀ m n : Nat, n < 10 ^ (m + 1) → 0 < n → 0 < dg (fd n) 0
  | 0, n, h, h0 => by rw [fd, fu_lo (by simpa using h)]; show 0 < 48 + n - 48; omega
  | m + 1, n, h, h0 => by
    by_cases h10 : n < 10
    · rw [fd, fu_lo h10]; show 0 < 48 + n - 48; omega
    · have ih := fd_first m (n / 10) (by rw [Nat.pow_succ] at h; omega) (by omega)
      have hl : 0 < (fd (n / 10)).length := by
        rcases Nat.eq_zero_or_pos (fd (n / 10)).length with h1 | h1
        · rw [List.eq_nil_of_length_eq_zero h1] at ih; simp [dg] at ih
        · exact h1
      have e : fd n = fd (n / 10) ++ [n % 10] := by
        unfold fd; rw [fu_hi h10, List.map_append]; simp
      rw [e, dg_append, if_pos hl]; exact ih
theorem fd_vd {n : Nat} (hn : n < 18446744073709551616) (h0 : 0 < n) : Vd 20 (fd n) := by
  have h20 : n < 10 ^ (19 + 1) := by omega
  have hf := fd_first 19 n h20 h0
  refine ⟨?_, by rw [fd_len]; exact fu_len 19 n h20, fun i => ?_, hf⟩
  · rcases Nat.eq_zero_or_pos (fd n).length with h1 | h1
    · rw [List.eq_nil_of_length_eq_zero h1] at hf; simp [dg] at hf
    · exact h1
  · by_cases hi : i < (fd n).length
    · have hi2 : i < (fu n).length := by rw [← fd_len]; exact hi
      have := fu_dig 19 n h20 i hi2
      have e : dg (fd n) i = bt (fu n) i - 48 := by
        unfold dg bt fd
        rw [List.getD_eq_getElem?_getD, List.getD_eq_getElem?_getD, List.getElem?_map, List.getElem?_eq_getElem hi2]; rfl
      omega
    · rw [dg_end (by omega)]; omega

structure NdStart (w W2 : World) (t : ByteArray) (b : Nat) : Prop where
  gr : Gr W2 W2 w.heap.size (.slice none 0 0) [] 0
  cell : ∀ i, i < t.size → W2.cell? ⟨b, i, none⟩ = some (.int .u8 (bt (tx t) i : Nat))
  bel : Below w.heap.size w W2
  lt : 0 < t.size → b < W2.heap.size
  ne : b ≠ w.heap.size
theorem nd_start {w w1 : World} {t : ByteArray} {cap : Nat} {o : Obj} (ho : o = .cells #[.slice none 0 0, .int .i64 0] 151 (0, 0)) (hB : Below (w.alloc o).heap.size (w.alloc o) w1) (fr : Nat × Nat) :
    NdStart w (w1.alloc (.cells (bytesRow t cap) 5 fr)).drew t w1.heap.size := by
  subst ho
  have hs := hB.size
  simp at hs
  have hb : (w1.alloc (.cells (bytesRow t cap) 5 fr)).drew.heap = (w1.alloc (.cells (bytesRow t cap) 5 fr)).heap := rfl
  have hg : (w1.alloc (.cells (bytesRow t cap) 5 fr)).drew.heap[w.heap.size]? = some (.cells #[.slice none 0 0, .int .i64 0] 151 (0, 0)) := by
    rw [hb, Below.heap_alloc _ _ _ (by omega), hB.block _ (by simp)]
    exact heap_alloc_new _ _
  refine ⟨Gr.start hg, fun i hi => ?_, ?_, fun h => by rw [hb]; simp, by omega⟩
  · have e : (w1.alloc (.cells (bytesRow t cap) 5 fr)).drew.cell? ⟨w1.heap.size, i, none⟩ = (w1.alloc (.cells (bytesRow t cap) 5 fr)).cell? ⟨w1.heap.size, i, none⟩ := rfl
    rw [e, World.cell?_alloc_mark, bytesRow_at t cap i hi, ← bt_get t i hi]; rfl
  · exact (((Below.refl _ _).alloc (Nat.le_refl _) _).trans (hB.mono (by simp))).alloc (by omega) _ |>.drew

theorem gd_of {L : Nat} {ds : List Nat} {D : Int} (h : Vd L ds) (dp : Int) (h1 : -D ≤ dp) (h2 : dp ≤ D) : Gd L D (trimD ds ds.length) dp := by
  obtain ⟨h3, h4, _⟩ := trimD_vd h
  exact ⟨h3, h1, h2, h4⟩
/-- The value of a trimmed list. -/
theorem val_trim {L : Nat} {ds : List Nat} (h : Vd L ds) (dp : Int) : vn (trimD ds ds.length) dp * den (dp - ds.length) = num (dn ds) (dp - ds.length) * vd (trimD ds ds.length) dp := by
  obtain ⟨_, _, j, h1, h2⟩ := trimD_vd h
  unfold vn vd
  refine num_eq (a := j) (b := 0) (by rw [← h2]; simp) (by omega)

set_option maxHeartbeats 1000000 in
set_option maxRecDepth 100000 in
theorem newDecimal_any (n : Nat) (w : World) (hn : n < 18446744073709551616) :
    Calls Tryz.prog 84 #[.int .u64 (n : Int)] w fun e w' => ∃ g, e = .returned (.pointer (some ⟨g, 0, none⟩)) ∧ w.heap.size ≤ g ∧ Below w.heap.size w w' ∧ Dc w' g (trimD (fd n) (fd n).length) (trimP (trimD (fd n) (fd n).length) (fd n).length) := by
  have hpos := Hd.mk (fd_pos n)
  have hlen20 : (fu n).length ≤ 20 := fu_len 19 n (by omega)
  have HDIG := Hd.mk (fu_dig 19 n (by omega))
  go_enter Tryz.func84, Tryz.ntmps84
  go_wp2_with fail
  refine (formatUint_any n _ hn).mono ?_
  rintro e w1 ⟨⟨t, rfl, ht⟩, hB⟩
  have hcv := fun w => run_bytes_of_string w 9 70 5 t Tryz.underlying9 Tryz.underlying70 Tryz.underlying5
  go_wp2_with fail
  have HS := nd_start (t := t) (cap := grownCap w1 t.size 0 5) rfl hB ((bytesRow t (grownCap w1 t.size 0 5)).size, (bytesRow t (grownCap w1 t.size 0 5)).size + 1)
  clear hcv
  generalize (w1.alloc (Obj.cells (bytesRow t (grownCap w1 t.size 0 5)) 5 ((bytesRow t (grownCap w1 t.size 0 5)).size, (bytesRow t (grownCap w1 t.size 0 5)).size + 1))).drew = W2 at HS ⊢
  generalize grownCap w1 t.size 0 5 = cap
  have HTS : Hd (t.size = (fu n).length) := ⟨by rw [← ht, tx_length]⟩
  generalize hb : w1.heap.size = b at HS ⊢
  clear hB hb
  have HSS := Hd.mk HS
  clear HS
  generalize hg : w.heap.size = g at HSS ⊢
  go_loopg [5, 10] t.size (fun m v5 v10 wr => ∃ (k : Nat) (v : Value) (l : List Nat), v10 = .int .i64 k ∧ k + m = t.size ∧ Gr W2 wr g v l 0 ∧ Hd (l = (fd n).take k) ∧ Hd (l.length = k))
  case atStart => exact ⟨0, _, [], rfl, by omega, by rw [← hg]; exact HSS.out.gr, ⟨by simp⟩, ⟨rfl⟩⟩
  case round =>
    obtain ⟨k, v, l, rfl, hkm, HG, HL, hlk⟩ := hrel
    obtain ⟨A, c, hv⟩ := HG.own.shape
    subst hv
    cases gk with
    | zero =>
      obtain rfl : k = t.size := by omega
      have hfull : (fd n).take t.size = fd n := List.take_of_length_le (by rw [fd_len, HTS.out]; exact Nat.le_refl _)
      have hle : l = fd n := by rw [HL.out, hfull]
      subst hle
      have hc0 := at_c0 HG.blk
      have hc1 := at_c1 HG.blk
      have hf := free_c HG.blk 1
      have H := Hd.mk HG
      clear HG
      go_wp2_with fail
      have HG2 := H.out.setP ((fd n).length : Int)
      have HG3 := Hd.mk HG2
      clear HG2
      refine (trim_any g (fd n) _ _ (HG3.out.dc hpos.out) (by rw [fd_len]; omega)).mono ?_
      rintro e w4 ⟨rfl, hd4, hb4⟩
      go_wp2
      go_ret
      refine ⟨g, rfl, Nat.le_of_eq hg, ?_, hd4⟩
      have hbb := HSS.out.bel.trans ((HG3.out.bel.trans hb4).below.mono (by rw [← hg, Nat.min_eq_left (Nat.le_of_lt HSS.out.gr.lt)]; exact Nat.le_refl _))
      exact hbb
    | succ m =>
      have hkt : k < t.size := by omega
      have hk20 : k < 100 := by have := HTS.out; omega
      have hcell : wr.cell? ⟨b, k, none⟩ = some (.int .u8 (bt (tx t) k : Nat)) := by
        rw [HG.bel.cell (HSS.out.lt (by omega)) (by rw [← hg]; exact HSS.out.ne)]; exact HSS.out.cell k hkt
      obtain ⟨hd1, hd2⟩ := HDIG.out k (by rw [← HTS.out]; exact hkt)
      rw [← ht] at hd1 hd2
      have hs := fd_snoc (n := n) (k := k) (by rw [← HTS.out]; exact hkt)
      rw [← ht] at hs
      generalize bt (tx t) k = ch at hcell hd1 hd2 hs
      have hsub : (ch : Int) - 48 = ((ch - 48 : Nat) : Int) := by omega
      have hc0 := at_c0 HG.blk
      have hc1 := at_c1 HG.blk
      have hll : l.length ≤ 1000000000 := by have := hlk.out; have := HTS.out; omega
      have H := Hd.mk HG
      clear HG
      have HS2 := Hd.mk hs
      clear hs
      have hbs : W2.heap.size ≤ wr.heap.size := H.out.bel.size
      go_wp2_with (first | (at_builtin; refine wpList_app8 rfl _ _ rfl W2.heap.size _ l rfl (H.out.own.row.alloc _) ⟨wr.heap.size, 0, none⟩ (ch - 48) rfl (by first | exact cell_one_new _ _ _ | (rw [← hsub]; exact cell_one_new _ _ _)) hll (by simp; omega) ?_; intro v2 w2 hown2 hgr2; have HG2 := H.out.app hgr2 hown2; obtain ⟨A2, c2, hv2⟩ := HG2.own.shape; rw [List.length_append, List.length_singleton] at hv2; subst hv2; have hc02 := HG2.c0; have hf2 := HG2.fz 0; have HG3 := Hd.mk HG2; clear HG2 hown2 hgr2) | fail)
      go_roundg m
      case measure => omega
      case rel => exact ⟨k + 1, _, _, by go_num, by omega, HG3.out.set, ⟨by rw [HS2.out, HL.out]⟩, ⟨by rw [List.length_append, List.length_singleton, hlk.out]⟩⟩
/-- A new decimal of a number that is not 0: its digits, its value times 2^x. -/
theorem nd_val {n : Nat} (hn : n < 18446744073709551616) (h0 : 0 < n) (x : Int) :
    Gd 20 20 (trimD (fd n) (fd n).length) (trimP (trimD (fd n) (fd n).length) (fd n).length) ∧ Val (trimD (fd n) (fd n).length) (trimP (trimD (fd n) (fd n).length) (fd n).length) x (n * 2 ^ x.toNat) (2 ^ (-x).toNat) := by
  have hvd := fd_vd hn h0
  have hle := hvd.le
  rw [trimP_vd (trimD_vd hvd).1]
  refine ⟨gd_of hvd _ (by omega) (by omega), ?_⟩
  have e := val_trim hvd ((fd n).length : Int)
  rw [Int.sub_self] at e
  have e1 : den 0 = 1 := rfl
  have e2 : num (dn (fd n)) 0 = n := by unfold num; rw [dn_fd 19 n (by omega)]; simp
  rw [e1, e2, Nat.mul_one] at e
  unfold Val
  rw [e, Nat.mul_right_comm n, Nat.mul_assoc]
end Go.Proofs.YtknjgopapbemcaaGreatDoor
/- Walk of lightstrconv's read: the loop over digits. -/
namespace Go.Proofs.YtknjgopapbemcaaGreatDoor
open Go.RowKit
set_option linter.unusedVariables false
set_option linter.unusedSimpArgs false
structure RdInv (hex : Bool) (l : List Nat) (g : Nat) (W1 wr : World) (i : Nat) (st : St) (mt : Nat) (x : Int) (v : Value) : Prop where
  sc : scan hex st0 l = scan hex st (l.drop i)
  il : i ≤ l.length
  fr : st.frac ≤ i
  len : st.ds.length ≤ i
  d16 : Dg 16 st.ds
  d10 : hex = false → Dg 10 st.ds
  hx : hex = true → mt = hm st.ds ∧ x = hxs st.ds st.frac ∧ Gr W1 wr g v [] 0
  dc : hex = false → mt = 0 ∧ x = 0 ∧ Gr W1 wr g v st.ds ((st.ds.length : Int) - st.frac)
structure RdEnd (hex : Bool) (l : List Nat) (g : Nat) (W1 wr : World) (i : Nat) (st : St) (mt : Nat) (x : Int) (v : Value) : Prop where
  inv : RdInv hex l g W1 wr i st mt x v
  stop : scan hex st0 l = (st, l.drop i)
theorem RdInv.nd {hex : Bool} {l : List Nat} {g : Nat} {W1 wr : World} {i : Nat} {st : St} {mt : Nat} {x : Int} {v : Value} (h : RdInv hex l g W1 wr i st mt x v) : mt < 18446744073709551616 := by
  cases hex with
  | true => rw [(h.hx rfl).1]; exact hm_lt h.d16
  | false => rw [(h.dc rfl).1]; omega
theorem RdInv.xb {hex : Bool} {l : List Nat} {g : Nat} {W1 wr : World} {i : Nat} {st : St} {mt : Nat} {x : Int} {v : Value} (h : RdInv hex l g W1 wr i st mt x v) : -4 * (i : Int) ≤ x ∧ x ≤ 4 * i := by
  have h1 := h.fr
  have h2 := h.len
  cases hex with
  | true => rw [(h.hx rfl).2.1]; unfold hxs; omega
  | false => rw [(h.dc rfl).2.1]; omega
theorem RdInv.step {hex : Bool} {l : List Nat} {g : Nat} {W1 wr wr' : World} {i c : Nat} {st st' : St} {mt mt' : Nat} {x x' : Int} {v v' : Value} (h : RdInv hex l g W1 wr i st mt x v) (hi : i < l.length) (hc : c = bt l i)
    (hs : stp hex st c = some st') (h1 : st'.frac ≤ i + 1) (h2 : st'.ds.length ≤ i + 1) (h3 : Dg 16 st'.ds) (h4 : hex = false → Dg 10 st'.ds)
    (h5 : hex = true → mt' = hm st'.ds ∧ x' = hxs st'.ds st'.frac ∧ Gr W1 wr' g v' [] 0) (h6 : hex = false → mt' = 0 ∧ x' = 0 ∧ Gr W1 wr' g v' st'.ds ((st'.ds.length : Int) - st'.frac)) :
    RdInv hex l g W1 wr' (i + 1) st' mt' x' v' := by
  refine ⟨?_, by omega, h1, h2, h3, h4, h5, h6⟩
  rw [h.sc, drop_bt hi, ← hc, scan_some hs]
theorem RdInv.und {hex : Bool} {l : List Nat} {g : Nat} {W1 wr : World} {i c : Nat} {st : St} {mt : Nat} {x : Int} {v : Value} (h : RdInv hex l g W1 wr i st mt x v) (hi : i < l.length) (hc : c = bt l i) (e : c = 95) :
    RdInv hex l g W1 wr (i + 1) { st with und := true } mt x v :=
  h.step hi hc (stp_und e) (Nat.le_succ_of_le h.fr) (Nat.le_succ_of_le h.len) h.d16 h.d10 h.hx h.dc
theorem RdInv.dotS {hex : Bool} {l : List Nat} {g : Nat} {W1 wr : World} {i c : Nat} {st : St} {mt : Nat} {x : Int} {v : Value} (h : RdInv hex l g W1 wr i st mt x v) (hi : i < l.length) (hc : c = bt l i) (e : c = 46) (hd : st.dot = false) :
    RdInv hex l g W1 wr (i + 1) { st with dot := true } mt x v :=
  h.step hi hc (stp_dot e hd) (Nat.le_succ_of_le h.fr) (Nat.le_succ_of_le h.len) h.d16 h.d10 h.hx h.dc
theorem RdInv.stop {hex : Bool} {l : List Nat} {g : Nat} {W1 wr : World} {i c : Nat} {st : St} {mt : Nat} {x : Int} {v : Value} (h : RdInv hex l g W1 wr i st mt x v) (hi : i < l.length) (hc : c = bt l i) (e : c ≠ 95) (hd : c = 46 → st.dot = true) (hv : dval hex c = none) :
    RdEnd hex l g W1 wr i st mt x v := by
  refine ⟨h, ?_⟩
  rw [h.sc, drop_bt hi, ← hc, scan_none (stp_none e hd hv)]
theorem RdInv.fin {hex : Bool} {l : List Nat} {g : Nat} {W1 wr : World} {i : Nat} {st : St} {mt : Nat} {x : Int} {v : Value} (h : RdInv hex l g W1 wr i st mt x v) (hi : i = l.length) : RdEnd hex l g W1 wr i st mt x v := by
  refine ⟨h, ?_⟩
  subst hi
  rw [h.sc, List.drop_length, scan]
/-- A digit in hexadecimal, one of the first 16. -/
theorem RdInv.hexA {l : List Nat} {g : Nat} {W1 wr : World} {i c d : Nat} {ds : List Nat} {frac : Nat} {dot dig und : Bool} {mt : Nat} {x : Int} {v : Value} (h : RdInv true l g W1 wr i ⟨ds, frac, dot, dig, und⟩ mt x v) (hi : i < l.length) (hc : c = bt l i) (e : c ≠ 95) (hv : dval true c = some d)
    (hq : mt < 1152921504606846976) {mt' : Nat} {x' : Int} (hm' : mt' = 16 * mt + d) (hx' : x' = if dot then x - 4 else x) :
    RdInv true l g W1 wr (i + 1) ⟨psh ds d, if dot then frac + 1 else frac, dot, true, und⟩ mt' x' v := by
  obtain ⟨h1, h2, h3⟩ := h.hx rfl
  have hl : ds.length < 16 := by
    rcases Nat.lt_or_ge ds.length 16 with hl | hl
    · exact hl
    · have := hm_hi h.d16 hl
      simp only at h1 this
      omega
  have hf := h.fr
  have hle := h.len
  simp only at h1 h2 hf hle
  have hp := psh_len ds d
  refine h.step hi hc (stp_dig e hv) (by dsimp only; split <;> omega) (by dsimp only; omega) (h.d16.push (dval_lt hv).1) (fun h => by cases h) (fun _ => ⟨?_, ?_, h3⟩) (fun h => by cases h)
  · rw [hm', h1]; exact (hm_psh_lo hl).symm
  · rw [hx', h2]
    dsimp only
    rw [(hxs_lo (d := d) hl).1, (hxs_lo (d := d) hl).2]
    cases dot <;> simp <;> omega
/-- A digit in hexadecimal, behind the first 16. -/
theorem RdInv.hexB {l : List Nat} {g : Nat} {W1 wr : World} {i c d : Nat} {ds : List Nat} {frac : Nat} {dot dig und : Bool} {mt : Nat} {x : Int} {v : Value} (h : RdInv true l g W1 wr i ⟨ds, frac, dot, dig, und⟩ mt x v) (hi : i < l.length) (hc : c = bt l i) (e : c ≠ 95) (hv : dval true c = some d)
    (hq : 1152921504606846976 ≤ mt) {mt' : Nat} {x' : Int} (hm' : mt' = if d = 0 then mt else mt ||| 1) (hx' : x' = if dot then x else x + 4) :
    RdInv true l g W1 wr (i + 1) ⟨psh ds d, if dot then frac + 1 else frac, dot, true, und⟩ mt' x' v := by
  obtain ⟨h1, h2, h3⟩ := h.hx rfl
  have hl : 16 ≤ ds.length := by
    rcases Nat.lt_or_ge ds.length 16 with hl | hl
    · have := hm_lo h.d16 hl
      simp only at h1 this
      omega
    · exact hl
  have hf := h.fr
  have hle := h.len
  simp only at h1 h2 hf hle
  have hp := psh_len ds d
  refine h.step hi hc (stp_dig e hv) (by dsimp only; split <;> omega) (by dsimp only; omega) (h.d16.push (dval_lt hv).1) (fun h => by cases h) (fun _ => ⟨?_, ?_, h3⟩) (fun h => by cases h)
  · rw [hm', h1]; exact (hm_psh_hi hl).symm
  · rw [hx', h2]
    dsimp only
    rw [hxs_hi (d := d) hl]
    cases dot
    · simp
    · simp; unfold hxs; omega
theorem RdInv.dec {l : List Nat} {g : Nat} {W1 wr wr' : World} {i c d : Nat} {ds : List Nat} {frac : Nat} {dot dig und : Bool} {mt : Nat} {x : Int} {v v' : Value} (h : RdInv false l g W1 wr i ⟨ds, frac, dot, dig, und⟩ mt x v) (hi : i < l.length) (hc : c = bt l i) (e : c ≠ 95) (hv : dval false c = some d)
    {dp : Int} (hg : Gr W1 wr' g v' (psh ds d) dp) (hdp : dp = ((psh ds d).length : Int) - (if dot then frac + 1 else frac : Nat)) :
    RdInv false l g W1 wr' (i + 1) ⟨psh ds d, if dot then frac + 1 else frac, dot, true, und⟩ mt x v' := by
  obtain ⟨h1, h2, h3⟩ := h.dc rfl
  have hf := h.fr
  have hle := h.len
  simp only at h1 h2 hf hle
  have hp := psh_len ds d
  refine h.step hi hc (stp_dig e hv) (by dsimp only; split <;> omega) (by dsimp only; omega) (h.d16.push (dval_lt hv).1) (fun _ => (h.d10 rfl).push ((dval_lt hv).2 rfl)) (fun h => by cases h) (fun _ => ⟨h1, h2, ?_⟩)
  subst hdp
  exact hg
theorem psh_app {ds : List Nat} {d : Nat} (h : 0 < ds.length ∨ d ≠ 0) : psh ds d = ds ++ [d] := by
  unfold psh; rw [if_neg]; rintro ⟨rfl, rfl⟩; simp at h
theorem or_shl {mt d : Nat} (h : mt < 1152921504606846976) (hd : d < 16) : bits .or .u64 ((mt : Int) * 16) (d : Int) = ((16 * mt + d : Nat) : Int) := by
  rw [show (mt : Int) * 16 = ((16 * mt : Nat) : Int) by omega]
  have e := u64_or_nat (16 * mt) d (by omega) (by omega)
  have e2 := Nat.two_pow_add_eq_or_of_lt (i := 4) (b := d) hd mt
  rw [show (2 : Nat) ^ 4 = 16 from rfl] at e2
  rw [← e2] at e
  exact e
theorem or_one {mt : Nat} (h : mt < 18446744073709551616) : bits .or .u64 (mt : Int) 1 = ((mt ||| 1 : Nat) : Int) := u64_or_nat mt 1 h (by omega)
theorem rd_start {hex : Bool} {l : List Nat} {g : Nat} {W1 : World} (h : Gr W1 W1 g (.slice none 0 0) [] 0) : RdInv hex l g W1 W1 0 st0 0 0 (.slice none 0 0) :=
  ⟨by rw [List.drop_zero], Nat.zero_le _, Nat.le_refl _, Nat.le_refl _, Dg.nil _, fun _ => Dg.nil _, fun _ => ⟨rfl, rfl, h⟩, fun _ => ⟨rfl, rfl, h⟩⟩
theorem dval_c {hex : Bool} {c : Nat} (h : 48 ≤ c ∧ c ≤ 57) : dval hex c = some (c - 48) := by unfold dval; rw [if_pos h]
theorem dval_l {c : Nat} (h : ¬ (48 ≤ c ∧ c ≤ 57)) (h2 : 97 ≤ lw c ∧ lw c ≤ 102) : dval true c = some (lw c - 87) := by unfold dval; rw [if_neg h, if_pos ⟨rfl, h2⟩]
theorem dval_n {hex : Bool} {c : Nat} (h : ¬ (48 ≤ c ∧ c ≤ 57)) (h2 : ¬ (hex = true ∧ 97 ≤ lw c ∧ lw c ≤ 102)) : dval hex c = none := by unfold dval; rw [if_neg h, if_neg h2]
end Go.Proofs.YtknjgopapbemcaaGreatDoor
