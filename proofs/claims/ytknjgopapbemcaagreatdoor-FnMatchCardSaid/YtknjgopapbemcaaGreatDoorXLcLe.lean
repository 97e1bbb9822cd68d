/- Lc Ld Le: joined by merge.py for the claim. -/
import Derived.Test.YtknjgopapbemcaaGreatDoorXLaLb
import Derived.RegionTactic
import Derived.BigRegion
import Derived.Test.YtknjgopapbemcaaGreatDoorXMaMf
/- Walk of lightstrconv's double. -/
namespace Go.Proofs.YtknjgopapbemcaaGreatDoor
open Go.RowKit
set_option linter.unusedVariables false
set_option linter.unusedSimpArgs false

structure D1Inv (P : Nat) (ds out : List Nat) (m n : Nat) (i : Int) (l : List Nat) : Prop where
  eq : db1 P ds m n i l = some out
  lt : n < P
  fuel : l.length + m ≤ 60000 ∧ (-200000 : Int) ≤ i - m
  hi : i < ds.length

theorem D1Inv.next {P : Nat} {ds out : List Nat} {m n : Nat} {i : Int} {l : List Nat} {d e q r : Nat} (h : D1Inv P ds out (m + 1) n i l) (hi : 0 ≤ i) (hd : d = dg ds i.toNat) (hd9 : d < 10) (he : e = d * P)
    (hq : q = (n + e) / 10) (hr : r = (n + e) % 10) : D1Inv P ds out m q (i - 1) (l ++ [r]) := by
  have e1 := h.eq
  rw [db1, if_pos hi, ← hd, ← he, ← hq, ← hr] at e1
  have h9 : e ≤ 9 * P := by rw [he]; exact Nat.mul_le_mul_right _ (by omega)
  exact ⟨e1, by have := h.lt; omega, by have := h.fuel; rw [List.length_append, List.length_singleton]; omega, by have := h.hi; omega⟩
theorem D1Inv.next2 {P : Nat} {ds out : List Nat} {m n : Nat} {i : Int} {l : List Nat} {q r : Nat} (h : D1Inv P ds out (m + 1) n i l) (hi : ¬ 0 ≤ i) (hn : 0 < n)
    (hq : q = n / 10) (hr : r = n % 10) : D1Inv P ds out m q (i - 1) (l ++ [r]) := by
  have e1 := h.eq
  rw [db1, if_neg hi, if_pos hn, ← hq, ← hr] at e1
  exact ⟨e1, by have := h.lt; omega, by have := h.fuel; rw [List.length_append, List.length_singleton]; omega, by have := h.hi; omega⟩
theorem D1Inv.done {P : Nat} {ds out : List Nat} {m n : Nat} {i : Int} {l : List Nat} (h : D1Inv P ds out (m + 1) n i l) (hi : ¬ 0 ≤ i) (hn : ¬ 0 < n) : out = l := by
  have e1 := h.eq
  rw [db1, if_neg hi, if_neg hn] at e1
  simpa using e1.symm

/-- The row while it is turned round: t swaps are done. -/
structure RevInv (l lt : List Nat) (t : Nat) : Prop where
  len : lt.length = l.length
  at_ : ∀ k, k < l.length → dg lt k = if k < t ∨ l.length - 1 - t < k then dg l (l.length - 1 - k) else dg l k

theorem revInv_zero (l : List Nat) : RevInv l l 0 := ⟨rfl, fun k hk => by rw [if_neg (by omega)]⟩
theorem own8_drew {w : World} {B : Nat} {v : Value} {l : List Nat} (h : Own8 w B v l) : Own8 w.drew B v l := h.below ⟨rfl, rfl, rfl, Nat.le_refl _, fun _ _ => rfl⟩
theorem own8_far {w : World} {B g j : Nat} {v u : Value} {l : List Nat} (h : Own8 w B v l) (hg : g < B) : Own8 (w.setCell ⟨g, j, none⟩ u) B v l :=
  ⟨ownsRow_setCell_below h.row (a := ⟨g, j, none⟩) hg u⟩

theorem double_start {w wr w2 : World} {g b c : Nat} {v : Value} {n : Nat} {out : List Nat} {dp z : Int} (hg : w.heap[g]? = some (.cells #[.slice (some ⟨b, 0, none⟩) n c, .int .i64 dp] 151 (0, 0)))
    (hB : Below w.heap.size w wr) (hO : Own8 wr w.heap.size v out) (hgw : g < w.heap.size) (h : w2 = (wr.setCell ⟨g, 1, none⟩ (.int .i64 z)).drew) :
    w2.heap[g]? = some (.cells #[.slice (some ⟨b, 0, none⟩) n c, .int .i64 z] 151 (0, 0)) ∧ Bel g w w2 ∧ Own8 w2 w.heap.size v out := by
  subst h
  refine ⟨?_, ((Bel.of_below hB).set _ _).drew, own8_drew (own8_far hO hgw)⟩
  show (wr.setCell _ _).heap[g]? = _
  exact set_c1 (by rw [hB.block g hgw]; exact hg)

def rev2 (l : List Nat) (t j : Nat) : List Nat := (l.set t (dg l j)).set j (dg l t)
theorem dg_set {l : List Nat} {t k x : Nat} (ht : t < l.length) : dg (l.set t x) k = if k = t then x else dg l k := by
  unfold dg
  simp only [List.getD_eq_getElem?_getD, List.getElem?_set]
  by_cases h : t = k
  · subst h; simp [ht]
  · rw [if_neg h, if_neg (fun e => h e.symm)]
theorem rev_step {l lt : List Nat} {t j : Nat} (h : RevInv l lt t) (hj : j = l.length - 1 - t) (htj : t < j) (hjl : j < l.length) : RevInv l (rev2 lt t j) (t + 1) := by
  have hl := h.len
  refine ⟨by simp [rev2, hl], fun k hk => ?_⟩
  unfold rev2
  rw [dg_set (by simp; omega), dg_set (by omega)]
  by_cases h1 : k = j
  · rw [if_pos h1, if_pos (by omega), h.at_ t (by omega), if_neg (by omega)]
    congr 1; omega
  · rw [if_neg h1]
    by_cases h2 : k = t
    · rw [if_pos h2, if_pos (by omega), h.at_ j hjl, if_neg (by omega)]
      congr 1; omega
    · rw [if_neg h2, h.at_ k hk]
      by_cases h3 : k < t ∨ l.length - 1 - t < k
      · rw [if_pos h3, if_pos (by omega)]
      · rw [if_neg h3, if_neg (by omega)]
theorem rev_done {l lt : List Nat} {t : Nat} (h : RevInv l lt t) (hd : ¬ (t : Int) < (l.length : Int) - 1 - t) : lt = l.reverse := by
  have hl := h.len
  refine ext_dg (by simp [hl]) (fun k hk => ?_)
  rw [dg_reverse (by omega), h.at_ k (by omega)]
  by_cases h3 : k < t ∨ l.length - 1 - t < k
  · rw [if_pos h3]
  · rw [if_neg h3]; congr 1; omega
theorem dcells_set (l : List Nat) (t x : Nat) : dcells (l.set t x) = (dcells l).set t (.int .u8 (x : Int)) := by unfold dcells; rw [List.map_set]
theorem own8_set {w : World} {B b c n : Nat} {l : List Nat} (h : Own8 w B (.slice (some ⟨b, 0, none⟩) n c) l) (hn : n = l.length) (t x : Nat) :
    Own8 (w.setCell ⟨b, t, none⟩ (.int .u8 (x : Int))) B (.slice (some ⟨b, 0, none⟩) n c) (l.set t x) := by
  subst hn
  have e := (h.row.stored t (.int .u8 (x : Int))).1
  refine ⟨?_⟩
  rw [dcells_set, List.length_set]
  exact e

theorem rev_own {w : World} {B b c n t j : Nat} {l : List Nat} (h : Own8 w B (.slice (some ⟨b, 0, none⟩) n c) l) (hn : n = l.length) :
    Own8 ((w.setCell ⟨b, t, none⟩ (.int .u8 (dg l j : Nat))).setCell ⟨b, j, none⟩ (.int .u8 (dg l t : Nat))).drew B (.slice (some ⟨b, 0, none⟩) n c) (rev2 l t j) :=
  own8_drew (own8_set (own8_set h hn t _) (by simp [hn]) j _)
theorem rev_below {w w2 : World} {B b t j : Nat} {u v : Value} (h : Below B w2 w) (hb : B ≤ b) : Below B w2 ((w.setCell ⟨b, t, none⟩ u).setCell ⟨b, j, none⟩ v).drew :=
  (Below.setCell (p := ⟨b, j, none⟩) (Below.setCell (p := ⟨b, t, none⟩) h hb _) hb _).drew
theorem double_last {w w2 wr : World} {g b b2 c c6 n : Nat} {ds l : List Nat} {z : Int} (hg : w2.heap[g]? = some (.cells #[.slice (some ⟨b, 0, none⟩) ds.length c, .int .i64 z] 151 (0, 0)))
    (h1 : Bel g w w2) (hB : Below w.heap.size w2 wr) (hO : Own8 wr w.heap.size (.slice (some ⟨b2, 0, none⟩) n c6) l.reverse) (hl : 0 < n) (hgw : g < w.heap.size) :
    Dc (wr.setCell ⟨g, 0, none⟩ (.slice (some ⟨b2, 0, none⟩) n c6)) g l.reverse z ∧ Bel g w (wr.setCell ⟨g, 0, none⟩ (.slice (some ⟨b2, 0, none⟩) n c6)) := by
  obtain ⟨A, c', e⟩ := hO.shape
  injection e with _ e _
  subst e
  obtain ⟨b2', c2, e, hb1, hb2, hc2, hcell⟩ := hO.cells hl
  rw [e]
  refine ⟨Dc.mk' (b := b2') (c := c2) rfl (set_c0 (by rw [hB.block g hgw]; exact hg)) (by omega) hc2 (fun i hi => by rw [cell_other (by omega)]; exact hcell i hi), ?_⟩
  exact (h1.trans_below hB).set _ _

set_option maxHeartbeats 1000000 in
set_option maxRecDepth 100000 in
theorem double_any (g : Nat) (ds out : List Nat) (dp : Int) (k P : Nat) (w : World) (hd : Dc w g ds dp) (hl : ds.length ≤ 40000) (hdig : ∀ i, dg ds i < 10) (hpos : 0 < ds.length)
    (hk1 : 1 ≤ k) (hk2 : k ≤ 59) (hP : (2 : Int) ^ k = (P : Int)) (hPb : P ≤ 576460752303423488) (hPp : 0 < P) (hdp : -1000000 ≤ dp ∧ dp ≤ 1000000)
    (h1 : db1 P ds 60000 0 ((ds.length : Int) - 1) [] = some out) (hout : 0 < out.length) (hgw0 : g < w.heap.size) :
    Calls Tryz.prog 88 #[.pointer (some ⟨g, 0, none⟩), .int .i64 (k : Int)] w fun e w' => e = .returned (.tuple #[]) ∧ Dc w' g (trimD out.reverse out.length) (trimP (trimD out.reverse out.length) (dp + ((out.length : Int) - (ds.length : Int)))) ∧ Bel g w w' := by
  have hgB := Hd.mk hgw0
  clear hgw0
  have HI : D1Inv P ds out 60000 0 ((ds.length : Int) - 1) [] := ⟨h1, by omega, by simp; omega, by omega⟩
  clear h1
  obtain ⟨b, n0, c, hg, hb, hc, hn, hcell⟩ := hd.ex
  subst hn
  have hc0 := at_c0 hg
  have hc1 := at_c1 hg
  have hf := free_c hg
  have HG := Hd.mk hg
  clear hg hd
  have hk3 : (0 : Int) ≤ (k : Int) := by omega
  have hk4 : (k : Int) ≤ 59 := by omega
  have HDIG := Hd.mk hdig
  clear hdig
  have HC := Hd.mk hcell
  clear hcell
  go_enter Tryz.func88, Tryz.ntmps88
  go_wp2
  go_loopg [4, 5, 6] 60000 (fun m v4 v5 v6 w' => ∃ (n : Nat) (i : Int) (l : List Nat), v4 = .int .u64 n ∧ v6 = .int .i64 i ∧ D1Inv P ds out m n i l ∧ Own8 w' w.heap.size v5 l ∧ Below w.heap.size w w')
  case atStart => exact ⟨0, _, [], rfl, rfl, HI, own8_nil _ _, Below.refl _ _⟩
  case round =>
    clear HI
    obtain ⟨n, i, l, rfl, rfl, HI, HO, HB⟩ := hrel
    cases gk with
    | zero => exact absurd HI.eq (by simp [db1])
    | succ m =>
      have hgw := lt_of_block HG.out
      have hbw := half_lt HC.out hpos
      have hc0' : wr.cell? ⟨g, 0, none⟩ = some (.slice (some ⟨b, 0, none⟩) ds.length c) := by rw [HB.cell hgw]; exact hc0
      have hi1 := HI.fuel
      have hi2 := HI.hi
      have hn1 := HI.lt
      have hll : l.length ≤ 1000000000 := by omega
      obtain ⟨A6, c6, rfl⟩ := HO.shape
      have hHB := Hd.mk HB
      have hwB : w.heap.size ≤ wr.heap.size := HB.size
      by_cases hi : 0 ≤ i
      · obtain ⟨j, rfl⟩ := Int.eq_ofNat_of_zero_le hi
        have hjl : j < ds.length := by omega
        have hcb : wr.cell? ⟨b, j, none⟩ = some (.int .u8 (dg ds j : Nat)) := by rw [HB.cell hbw]; exact HC.out j hjl
        obtain ⟨d, hd⟩ : ∃ d, d = dg ds j := ⟨_, rfl⟩
        have hd9 : d < 10 := by rw [hd]; exact HDIG.out j
        rw [← hd] at hcb
        obtain ⟨e, he⟩ : ∃ e, e = d * P := ⟨_, rfl⟩
        have hem : (d : Int) * (P : Int) = (e : Int) := by rw [he]; exact (Int.natCast_mul d P).symm
        have he9 : e ≤ 9 * P := by rw [he]; exact Nat.mul_le_mul_right _ (by omega)
        obtain ⟨q, hq⟩ : ∃ q, q = (n + e) / 10 := ⟨_, rfl⟩
        obtain ⟨r, hr⟩ : ∃ r, r = (n + e) % 10 := ⟨_, rfl⟩
        have hqe : ((n : Int) + (e : Int)) / 10 = (q : Int) := by omega
        have hre : ((n : Int) + (e : Int)) % 10 = (r : Int) := by omega
        have hr9 : (r : Int) ≤ 9 := by omega
        have HN := Hd.mk (HI.next hi hd hd9 he hq hr)
        clear hd he hq hr HI HB
        go_wp2_with (first | (at_builtin; refine wpList_app8 rfl _ _ rfl w.heap.size _ l rfl (HO.row.alloc _) ⟨wr.heap.size, 0, none⟩ r rfl (cell_one_new _ _ _) hll (by simp; omega) ?_; intro v2 w2 hown2 hgr2; have HB2 := Hd.mk (half_below hHB.out HO hgr2); have HO2 : Own8 w2 w.heap.size v2 (l ++ [r]) := ⟨hown2⟩; clear hown2 hgr2))
        go_roundg m
        case measure => omega
        case rel => exact ⟨q, _, l ++ [r], (by first | rfl | rw [hqe]), rfl, HN.out, HO2, HB2.out⟩
      · have hib : decide (0 ≤ i) = false := by simpa using hi
        by_cases hn : 0 < n
        · have hnb : decide ((0 : Int) < (n : Int)) = true := by simpa using hn
          obtain ⟨q, hq⟩ : ∃ q, q = n / 10 := ⟨_, rfl⟩
          obtain ⟨r, hr⟩ : ∃ r, r = n % 10 := ⟨_, rfl⟩
          have hqe : (n : Int) / 10 = (q : Int) := by omega
          have hre : (n : Int) % 10 = (r : Int) := by omega
          have hr9 : (r : Int) ≤ 9 := by omega
          have HN := Hd.mk (HI.next2 hi hn hq hr)
          clear hq hr HI HB
          go_wp2_with (first | (at_builtin; refine wpList_app8 rfl _ _ rfl w.heap.size _ l rfl (HO.row.alloc _) ⟨wr.heap.size, 0, none⟩ r rfl (cell_one_new _ _ _) hll (by simp; omega) ?_; intro v2 w2 hown2 hgr2; have HB2 := Hd.mk (half_below hHB.out HO hgr2); have HO2 : Own8 w2 w.heap.size v2 (l ++ [r]) := ⟨hown2⟩; clear hown2 hgr2))
          go_roundg m
          case measure => omega
          case rel => exact ⟨q, _, l ++ [r], (by first | rfl | rw [hqe]), rfl, HN.out, HO2, HB2.out⟩
        · have hnb : decide ((0 : Int) < (n : Int)) = false := by simpa using hn
          obtain rfl := HI.done hi hn
          have hc1' : wr.cell? ⟨g, 1, none⟩ = some (.int .i64 dp) := by rw [HB.cell hgw]; exact hc1
          have hfg : ∀ j, wr.frozen? ⟨g, j, none⟩ = false := fun j => by rw [HB.frozen (p := ⟨g, j, none⟩) hgw]; exact hf j
          clear HI hc0 hc1 hf HB
          go_wp2_with fail
          go_still_tail 13, (by kernel_rfl)
          go_wp2
          obtain ⟨z, hz⟩ : ∃ z : Int, z = dp + ((out.length : Int) - (ds.length : Int)) := ⟨_, rfl⟩
          rw [← hz]
          obtain ⟨w2, hw2⟩ : ∃ w2, w2 = (wr.setCell ⟨g, 1, none⟩ (.int .i64 z)).drew := ⟨_, rfl⟩
          have HS := Hd.mk (double_start HG.out hHB.out HO hgw hw2)
          rw [← hw2]
          obtain ⟨b2, c2, e2, hb2, hb3, hc2, _⟩ := HS.out.2.2.cells hout
          injection e2 with e2 _ e3
          subst e2
          subst e3
          have hol : out.length ≤ 100000 := by omega
          have HZ := Hd.mk hz
          clear hw2 hz HO
          go_loopg [7, 8] out.length (fun m v7 v8 w' => ∃ (t : Nat) (lt : List Nat), v7 = .int .i64 (t : Int) ∧ v8 = .int .i64 ((out.length : Int) - 1 - t) ∧ RevInv out lt t ∧ t + m = out.length ∧ Own8 w' w.heap.size (.slice (some ⟨b2, 0, none⟩) out.length c6) lt ∧ Below w.heap.size w2 w')
          case atStart => exact ⟨0, out, rfl, by simp, revInv_zero _, by omega, HS.out.2.2, Below.refl _ _⟩
          case round =>
            obtain ⟨t, lt, rfl, rfl, HR, htm, HO, HB⟩ := hrel
            by_cases hlt : (t : Int) < (out.length : Int) - 1 - t
            · have hlt' : t < out.length - 1 - t := by omega
              obtain ⟨j, hj⟩ : ∃ j, j = out.length - 1 - t := ⟨_, rfl⟩
              have hje : (out.length : Int) - 1 - t = (j : Int) := by omega
              rw [hje] at hlt ⊢
              have hjl : j < out.length := by omega
              have htl : t < out.length := by omega
              have htj : t < j := by omega
              obtain ⟨ct, cj⟩ : wr.cell? ⟨b2, t, none⟩ = some (.int .u8 (dg lt t : Nat)) ∧ wr.cell? ⟨b2, j, none⟩ = some (.int .u8 (dg lt j : Nat)) := by
                obtain ⟨b3, c3, e3, _, _, _, hcl⟩ := HO.cells (by have := HR.len; omega)
                injection e3 with e3 _ _
                injection e3 with e3
                injection e3 with e3
                subst e3
                exact ⟨hcl t (by have := HR.len; omega), hcl j (by have := HR.len; omega)⟩
              have hfr : ∀ q, wr.frozen? ⟨b2, q, none⟩ = false := fun q => by
                have e4 : out.length = lt.length := HR.len.symm
                rw [e4] at HO
                exact HO.row.frozenAt q
              have HJ := Hd.mk hj
              have HHR := Hd.mk HR
              clear hj hje HR
              go_wp2_with fail
              go_region
              all_goals go_wp2
              go_roundg (gk - 1)
              case measure => omega
              case rel => exact ⟨t + 1, rev2 lt t j, by go_num, by have := HJ.out; go_num, rev_step HHR.out HJ.out htj hjl, by omega, rev_own HO HHR.out.len.symm, rev_below HB hb2⟩
            · have hltb : ¬ (t : Int) < (out.length : Int) - 1 - t := hlt
              obtain rfl := rev_done HR hlt
              have hfg : wr.frozen? ⟨g, 0, none⟩ = false := by rw [HB.frozen (p := ⟨g, 0, none⟩) hgw]; exact free_c HS.out.1 0
              have hcg : wr.cell? ⟨g, 0, none⟩ = some (.slice (some ⟨b, 0, none⟩) ds.length c) := by rw [HB.cell (p := ⟨g, 0, none⟩) hgw]; exact at_c0 HS.out.1
              have HL := Hd.mk (double_last HS.out.1 HS.out.2.1 HB HO hout hgw)
              clear HR HO HB
              go_wp2_with fail
              refine (trim_any g out.reverse z _ HL.out.1 (by simp; omega)).mono ?_
              rintro e w4 ⟨rfl, hd4, hb4⟩
              go_wp2
              go_end0
              rw [List.length_reverse] at hd4
              refine ⟨rfl, ?_, HL.out.2.trans hb4⟩
              rw [← HZ.out]
              exact hd4
end Go.Proofs.YtknjgopapbemcaaGreatDoor
/- Contracts of lightstrconv's half, double, shift over good decimals. -/
namespace Go.Proofs.YtknjgopapbemcaaGreatDoor
open Go.RowKit
set_option linter.unusedVariables false
set_option linter.unusedSimpArgs false

/-- A good decimal: digits, and a point within bounds. -/
structure Gd (L : Nat) (D : Int) (ds : List Nat) (dp : Int) : Prop where
  vd : Vd L ds
  lo : -D ≤ dp
  hi : dp ≤ D
  last : 0 < dg ds (ds.length - 1)

theorem Vd.wide {L L' : Nat} {ds : List Nat} (h : Vd L ds) (hL : L ≤ L') : Vd L' ds := ⟨h.pos, Nat.le_trans h.le hL, h.dig, h.first⟩
theorem Gd.wide {L L' : Nat} {D : Int} {ds : List Nat} {dp : Int} (h : Gd L D ds dp) (hL : L ≤ L') : Gd L' D ds dp := ⟨h.vd.wide hL, h.lo, h.hi, h.last⟩
theorem cast_two_pow (k : Nat) : (2 : Int) ^ k = ((2 ^ k : Nat) : Int) := (Int.natCast_pow 2 k).symm

theorem half_calls {L : Nat} {D : Int} {g : Nat} {ds : List Nat} {dp : Int} {k : Nat} {w : World} (hd : Dc w g ds dp) (h : Gd L D ds dp) (hL : L ≤ 39000) (hD : D ≤ 900000) (hk1 : 1 ≤ k) (hk2 : k ≤ 59) :
    Calls Tryz.prog 87 #[.pointer (some ⟨g, 0, none⟩), .int .i64 (k : Int)] w fun e w' => e = .returned (.tuple #[]) ∧ Dc w' g (halfD k ds) (halfP k ds dp) ∧ Bel g w w' ∧ Gd (L + k + 1) (D + 20) (halfD k ds) (halfP k ds dp) := by
  have hP : 2 ^ k ≤ 576460752303423488 := two_pow_le (m := 59) hk2
  have hdp := h.lo
  have hdp2 := h.hi
  obtain ⟨h1, h2, h3, h4, h5, h6, h7, h8, h9⟩ := half_spec h.vd (by omega) hk1 hk2
  obtain ⟨b, n0, c, hg, _⟩ := hd.ex
  refine (half_any g ds (halfO k ds) dp k (2 ^ k) (halfI k ds).1 (halfI k ds).2 w hd (by have := h.vd.le; omega) h.vd.dig h.vd.first h.vd.pos hk1 hk2 (cast_two_pow k) hP (Nat.two_pow_pos k) ⟨by omega, by omega⟩ h1 h2 h3 (lt_of_block hg)).mono ?_
  rintro e w' ⟨he, hd0, hb⟩
  have hd' : Dc w' g (halfD k ds) (trimP (halfD k ds) (halfP k ds dp)) := hd0
  rw [trimP_vd h5] at hd'
  refine ⟨he, hd', hb, h5, by unfold halfP; omega, by unfold halfP; omega, h6⟩

theorem double_calls {L : Nat} {D : Int} {g : Nat} {ds : List Nat} {dp : Int} {k : Nat} {w : World} (hd : Dc w g ds dp) (h : Gd L D ds dp) (hL : L ≤ 39000) (hD : D ≤ 900000) (hk1 : 1 ≤ k) (hk2 : k ≤ 59) :
    Calls Tryz.prog 88 #[.pointer (some ⟨g, 0, none⟩), .int .i64 (k : Int)] w fun e w' => e = .returned (.tuple #[]) ∧ Dc w' g (dblD k ds) (dblP k ds dp) ∧ Bel g w w' ∧ Gd (L + 19) (D + 20) (dblD k ds) (dblP k ds dp) := by
  have hP : 2 ^ k ≤ 576460752303423488 := two_pow_le (m := 59) hk2
  have hdp := h.lo
  have hdp2 := h.hi
  obtain ⟨h1, h2, h3, h4, h5, h6, h7, h8⟩ := dbl_spec h.vd (by omega) hk2
  obtain ⟨b, n0, c, hg, _⟩ := hd.ex
  refine (double_any g ds (dblO k ds) dp k (2 ^ k) w hd (by have := h.vd.le; omega) h.vd.dig h.vd.pos hk1 hk2 (cast_two_pow k) hP (Nat.two_pow_pos k) ⟨by omega, by omega⟩ h1 h2 (lt_of_block hg)).mono ?_
  rintro e w' ⟨he, hd0, hb⟩
  have hd' : Dc w' g (dblD k ds) (trimP (dblD k ds) (dblP k ds dp)) := hd0
  rw [trimP_vd h4] at hd'
  exact ⟨he, hd', hb, h4, by unfold dblP; omega, by unfold dblP; omega, h5⟩

structure ShInv (L : Nat) (D : Int) (g : Nat) (w wr : World) (f : Nat) (k : Int) (r : List Nat × Int) : Prop where
  ex : ∃ ds dp, Dc wr g ds dp ∧ shf f k ds dp = r ∧ Gd (L + 60 * (40 - f)) (D + 20 * (40 - (f : Int))) ds dp
  below : Bel g w wr
  f40 : f ≤ 40

structure ShInv2 (L : Nat) (D : Int) (g : Nat) (w wr : World) (f : Nat) (k : Int) (r : List Nat × Int) : Prop where
  ex : ∃ ds dp, Dc wr g ds dp ∧ shf (f - 1) k ds dp = r ∧ Gd (L + 2400 + 60 * (41 - f)) (D + 800 + 20 * (41 - (f : Int))) ds dp
  below : Bel g w wr
  fuel : (-k ≤ 59 * f - 600) ∧ 1 < f
  f40 : f ≤ 41

theorem sh_up {L : Nat} {D : Int} {g : Nat} {w w1 w2 : World} {f : Nat} {k : Int} {r : List Nat × Int} {ds : List Nat} {dp : Int} (hb : Bel g w w1) (h59 : 59 < k) (he : shf (f + 1) k ds dp = r) (hf : f + 1 ≤ 40)
    (hd : Dc w2 g (dblD 59 ds) (dblP 59 ds dp)) (hb2 : Bel g w1 w2) (hg : Gd (L + 60 * (40 - (f + 1)) + 60) (D + 20 * (40 - ((f + 1 : Nat) : Int)) + 20) (dblD 59 ds) (dblP 59 ds dp)) : ShInv L D g w w2 f (k - 59) r := by
  rw [shf, if_pos h59] at he
  exact ⟨⟨_, _, hd, he, ⟨hg.vd.wide (by omega), by have := hg.lo; show _ ≤ _; omega, by have := hg.hi; show _ ≤ _; omega, hg.last⟩⟩, hb.trans hb2, by omega⟩
theorem sh_start {L : Nat} {D : Int} {g : Nat} {w w1 : World} {f : Nat} {k : Int} {r : List Nat × Int} (h : ShInv L D g w w1 f k r) (hk : -1700 ≤ k ∧ k ≤ 59) (hf : f = 40 ∨ (0 < k ∧ 1 ≤ f)) : ShInv2 L D g w w1 41 k r := by
  obtain ⟨ds, dp, hd, he, hg⟩ := h.ex
  have f40 := h.f40
  refine ⟨⟨ds, dp, hd, ?_, hg.vd.wide (by omega), by have := hg.lo; omega, by have := hg.hi; omega, hg.last⟩, h.below, by omega, by omega⟩
  rcases hf with rfl | ⟨h1, h2⟩
  · exact he
  · obtain ⟨f', rfl⟩ : ∃ m, f = m + 1 := ⟨f - 1, by omega⟩
    rw [shf, if_neg (by omega), if_neg (by omega), if_pos h1] at he
    rw [show 41 - 1 = 39 + 1 by rfl, shf, if_neg (by omega), if_neg (by omega), if_pos h1]
    exact he
theorem sh_down {L : Nat} {D : Int} {g : Nat} {w w1 w2 : World} {f : Nat} {k : Int} {r : List Nat × Int} {ds : List Nat} {dp : Int} (hb : Bel g w w1) (h59 : k < -59) (he : shf (f + 1 - 1) k ds dp = r) (hfu : (-k ≤ 59 * ((f + 1 : Nat) : Int) - 600) ∧ 1 < f + 1) (hf : f + 1 ≤ 41)
    (hd : Dc w2 g (halfD 59 ds) (halfP 59 ds dp)) (hb2 : Bel g w1 w2) (hg : Gd (L + 2400 + 60 * (41 - (f + 1)) + 60) (D + 800 + 20 * (41 - ((f + 1 : Nat) : Int)) + 20) (halfD 59 ds) (halfP 59 ds dp)) : ShInv2 L D g w w2 f (k + 59) r := by
  rw [show f + 1 - 1 = f by omega] at he
  obtain ⟨f', rfl⟩ : ∃ m, f = m + 1 := ⟨f - 1, by omega⟩
  rw [shf, if_neg (by omega), if_pos h59] at he
  exact ⟨⟨_, _, hd, he, hg.vd.wide (by omega), by have := hg.lo; omega, by have := hg.hi; omega, hg.last⟩, hb.trans hb2, by omega, by omega⟩
theorem sh_end {f : Nat} {k : Int} {r : List Nat × Int} {ds : List Nat} {dp : Int} (h1 : k ≤ 59) (h2 : -59 ≤ k) (hfu : (-k ≤ 59 * (f : Int) - 600) ∧ 1 < f) (he : shf (f - 1) k ds dp = r) :
    r = if 0 < k then (dblD k.toNat ds, dblP k.toNat ds dp) else if k < 0 then (halfD (-k).toNat ds, halfP (-k).toNat ds dp) else (ds, dp) := by
  obtain ⟨f', rfl⟩ : ∃ m, f = m + 2 := ⟨f - 2, by omega⟩
  rw [show f' + 2 - 1 = f' + 1 by omega, shf, if_neg (by omega), if_neg (by omega)] at he
  exact he.symm
theorem sh_fin1 {L : Nat} {D : Int} {g : Nat} {w w1 w2 : World} {f q : Nat} {r : List Nat × Int} {ds : List Nat} {dp : Int} (hr : r = if 0 < (q : Int) then (dblD (q : Int).toNat ds, dblP (q : Int).toNat ds dp) else if (q : Int) < 0 then (halfD (-(q : Int)).toNat ds, halfP (-(q : Int)).toNat ds dp) else (ds, dp))
    (h0 : 0 < (q : Int)) (hd : Dc w2 g (dblD q ds) (dblP q ds dp)) (hb : Bel g w w1) (hb2 : Bel g w1 w2) (hg : Gd (L + 2400 + 60 * (41 - f) + 60) (D + 800 + 20 * (41 - (f : Int)) + 20) (dblD q ds) (dblP q ds dp)) (hf : f ≤ 41) :
    Dc w2 g r.1 r.2 ∧ Bel g w w2 ∧ Gd (L + 5000) (D + 2000) r.1 r.2 := by
  rw [if_pos h0, Int.toNat_natCast] at hr
  subst hr
  exact ⟨hd, hb.trans hb2, hg.vd.wide (by omega), by have := hg.lo; show _ ≤ _; omega, by have := hg.hi; show _ ≤ _; omega, hg.last⟩
theorem sh_fin2 {L : Nat} {D : Int} {g : Nat} {w w1 w2 : World} {f q : Nat} {k : Int} {r : List Nat × Int} {ds : List Nat} {dp : Int} (hr : r = if 0 < k then (dblD k.toNat ds, dblP k.toNat ds dp) else if k < 0 then (halfD (-k).toNat ds, halfP (-k).toNat ds dp) else (ds, dp))
    (h0 : k < 0) (hq : -k = (q : Int)) (hd : Dc w2 g (halfD q ds) (halfP q ds dp)) (hb : Bel g w w1) (hb2 : Bel g w1 w2) (hg : Gd (L + 2400 + 60 * (41 - f) + 60) (D + 800 + 20 * (41 - (f : Int)) + 20) (halfD q ds) (halfP q ds dp)) (hf : f ≤ 41) :
    Dc w2 g r.1 r.2 ∧ Bel g w w2 ∧ Gd (L + 5000) (D + 2000) r.1 r.2 := by
  rw [if_neg (by omega), if_pos h0, hq, Int.toNat_natCast] at hr
  subst hr
  exact ⟨hd, hb.trans hb2, hg.vd.wide (by omega), by have := hg.lo; show _ ≤ _; omega, by have := hg.hi; show _ ≤ _; omega, hg.last⟩
theorem sh_fin0 {L : Nat} {D : Int} {g : Nat} {w w1 : World} {f : Nat} {r : List Nat × Int} {ds : List Nat} {dp : Int} (hr : r = if 0 < (0 : Int) then (dblD (0 : Int).toNat ds, dblP (0 : Int).toNat ds dp) else if (0 : Int) < 0 then (halfD (-(0 : Int)).toNat ds, halfP (-(0 : Int)).toNat ds dp) else (ds, dp))
    (hd : Dc w1 g ds dp) (hb : Bel g w w1) (hg : Gd (L + 2400 + 60 * (41 - f)) (D + 800 + 20 * (41 - (f : Int))) ds dp) (hf : f ≤ 41) :
    Dc w1 g r.1 r.2 ∧ Bel g w w1 ∧ Gd (L + 5000) (D + 2000) r.1 r.2 := by
  rw [if_neg (by omega), if_neg (by omega)] at hr
  subst hr
  exact ⟨hd, hb, hg.vd.wide (by omega), by have := hg.lo; show _ ≤ _; omega, by have := hg.hi; show _ ≤ _; omega, hg.last⟩

set_option maxHeartbeats 1000000 in
set_option maxRecDepth 100000 in
theorem shift_any {L : Nat} {D : Int} {g : Nat} {ds : List Nat} {dp k : Int} {w : World} (hd : Dc w g ds dp) (h : Gd L D ds dp) (hL : L ≤ 34000) (hDD : D ≤ 500000) (hk1 : -1700 ≤ k) (hk2 : k ≤ 1700) :
    Calls Tryz.prog 85 #[.pointer (some ⟨g, 0, none⟩), .int .i64 k] w fun e w' => e = .returned (.tuple #[]) ∧ Dc w' g (shf 40 k ds dp).1 (shf 40 k ds dp).2 ∧ Bel g w w' ∧ Gd (L + 5000) (D + 2000) (shf 40 k ds dp).1 (shf 40 k ds dp).2 := by
  obtain ⟨r, hr⟩ : ∃ r, shf 40 k ds dp = r := ⟨_, rfl⟩
  rw [hr]
  have H0 : ShInv L D g w w 40 k r := ⟨⟨ds, dp, hd, hr, ⟨h.vd.wide (by omega), by have := h.lo; omega, by have := h.hi; omega, h.last⟩⟩, Bel.refl _ _, by omega⟩
  clear hr hd h
  go_enter Tryz.func85, Tryz.ntmps85
  go_wp2_with fail
  go_loopg [1] 40 (fun f v1 wr => ∃ k : Int, v1 = .int .i64 k ∧ ShInv L D g w wr f k r ∧ -1700 ≤ k ∧ k ≤ 59 * f - 600 ∧ (f = 40 ∨ 0 < k))
  case atStart => exact ⟨k, rfl, H0, hk1, by omega, .inl rfl⟩
  case round =>
    clear H0 hk1 hk2
    obtain ⟨k, rfl, HI, hk1, hk2, hk3⟩ := hrel
    by_cases h59 : 59 < k
    · obtain ⟨f, rfl⟩ : ∃ f, gk = f + 1 := ⟨gk - 1, by omega⟩
      obtain ⟨ds, dp, hd, he, hg⟩ := HI.ex
      have h59b : decide ((59 : Int) < k) = true := by simpa using h59
      have HD := Hd.mk (And.intro hd hg)
      have f40 := HI.f40
      clear hd hg
      go_wp2_with fail
      refine (double_calls HD.out.1 HD.out.2 (by omega) (by omega) (by omega) (by omega) : Calls Tryz.prog 88 #[.pointer (some ⟨g, 0, none⟩), .int .i64 ((59 : Nat) : Int)] _ _).mono ?_
      rintro e w' ⟨rfl, hd', hb', hg'⟩
      go_wp2
      go_roundg f
      case measure => omega
      case rel => exact ⟨k - 59, rfl, sh_up HI.below h59 he f40 hd' hb' (hg'.wide (by omega)), by omega, by omega, .inr (by omega)⟩
    · have h59b : decide ((59 : Int) < k) = false := by simpa using h59
      have H0 := sh_start HI (by omega) (by omega)
      clear HI
      go_wp2_with fail
      go_loopg [1] 41 (fun f v1 wr => ∃ k : Int, v1 = .int .i64 k ∧ ShInv2 L D g w wr f k r ∧ k ≤ 59 ∧ -1700 ≤ k)
      case atStart => exact ⟨k, rfl, H0, by omega, by omega⟩
      case round =>
        clear H0 hk1 hk2 hk3 h59 h59b
        obtain ⟨k, rfl, HI, hk1, hk2⟩ := hrel
        obtain ⟨ds, dp, hd, he, hg⟩ := HI.ex
        have HD := Hd.mk (And.intro hd hg)
        have hfu := HI.fuel
        have f40 := HI.f40
        clear hd hg
        by_cases h59 : k < -59
        · obtain ⟨f, rfl⟩ : ∃ f, gk = f + 1 := ⟨gk - 1, by omega⟩
          have h59b : decide (k < (-59 : Int)) = true := by simpa using h59
          go_wp2_with fail
          refine (half_calls HD.out.1 HD.out.2 (by omega) (by omega) (by omega) (by omega) : Calls Tryz.prog 87 #[.pointer (some ⟨g, 0, none⟩), .int .i64 ((59 : Nat) : Int)] _ _).mono ?_
          rintro e w' ⟨rfl, hd', hb', hg'⟩
          go_wp2
          go_roundg f
          case measure => omega
          case rel => exact ⟨k + 59, rfl, sh_down HI.below h59 he hfu f40 hd' hb' hg', by omega, by omega⟩
        · have h59b : decide (k < (-59 : Int)) = false := by simpa using h59
          have HF := Hd.mk (sh_end hk1 (by omega) hfu he)
          clear he
          by_cases h0 : 0 < k
          · obtain ⟨q, rfl⟩ := Int.eq_ofNat_of_zero_le (Int.le_of_lt h0)
            go_wp2_with fail
            refine (double_calls HD.out.1 HD.out.2 (by omega) (by omega) (by omega) (by omega)).mono ?_
            rintro e w' ⟨rfl, hd', hb', hg'⟩
            go_wp2
            go_end0
            exact ⟨rfl, sh_fin1 HF.out h0 hd' HI.below hb' (hg'.wide (by omega)) f40⟩
          · by_cases h1 : k < 0
            · obtain ⟨q, hq⟩ := Int.eq_ofNat_of_zero_le (show 0 ≤ -k by omega)
              go_wp2_with fail
              refine (half_calls HD.out.1 HD.out.2 (by omega) (by omega) (by omega) (by omega)).mono ?_
              rintro e w' ⟨rfl, hd', hb', hg'⟩
              go_wp2
              go_end0
              exact ⟨rfl, sh_fin2 HF.out h1 hq hd' HI.below hb' (hg'.wide (by omega)) f40⟩
            · have hk0 : k = 0 := by omega
              subst hk0
              go_wp2_with fail
              go_end0
              exact ⟨rfl, sh_fin0 HF.out HD.out.1 HI.below HD.out.2 f40⟩
end Go.Proofs.YtknjgopapbemcaaGreatDoor
/- Walks of lightstrconv's digit, nearUp, whole. -/
namespace Go.Proofs.YtknjgopapbemcaaGreatDoor
open Go.RowKit
set_option linter.unusedVariables false
set_option linter.unusedSimpArgs false

set_option maxHeartbeats 1000000 in
set_option maxRecDepth 100000 in
theorem digit_any {g : Nat} {ds : List Nat} {dp : Int} {i : Nat} {w : World} (hd : Dc w g ds dp) (hl : ds.length ≤ 100000) (hi : i ≤ 100000) :
    Calls Tryz.prog 105 #[.pointer (some ⟨g, 0, none⟩), .int .i64 (i : Int)] w fun e w' => e = .returned (.int .u8 (dg ds i : Nat)) ∧ w = w' := by
  obtain ⟨b, n0, c, hg, hb, hc, hn, hcell⟩ := hd.ex
  subst hn
  have hc0 := at_c0 hg
  clear hg hd
  by_cases h : i < ds.length
  · have hx := hcell i h
    go_enter Tryz.func105, Tryz.ntmps105
    go_wp2
    go_ret
    exact ⟨rfl, rfl⟩
  · have hz := Hd.mk (dg_end (ds := ds) (i := i) (by omega))
    go_enter Tryz.func105, Tryz.ntmps105
    go_wp2
    go_ret
    exact ⟨by rw [hz.out]; rfl, rfl⟩

theorem ret_bool {a b : Bool} (h : a = b) : Ending.returned (.bool a) = .returned (.bool b) := by rw [h]
theorem ret_num {k : IntKind} {a b : Int} (h : a = b) : Ending.returned (.int k a) = .returned (.int k b) := by rw [h]

set_option maxHeartbeats 1000000 in
set_option maxRecDepth 100000 in
theorem nearUp_any {g : Nat} {ds : List Nat} {dp : Int} {n : Nat} {w : World} (hd : Dc w g ds dp) (hl : ds.length ≤ 100000) (hi : n ≤ 100000) :
    Calls Tryz.prog 106 #[.pointer (some ⟨g, 0, none⟩), .int .i64 (n : Int)] w fun e w' => e = .returned (.bool (nearU ds n)) ∧ ∃ q, w' = w.drewN q := by
  obtain ⟨b, n0, c, hg, hb, hc, hn, hcell⟩ := hd.ex
  subst hn
  have hc0 := at_c0 hg
  clear hg hd
  by_cases h : n < ds.length
  · have hx := hcell n h
    have hx1 : 0 < n → w.cell? ⟨b, n - 1, none⟩ = some (.int .u8 (dg ds (n - 1) : Nat)) := fun hn => hcell (n - 1) (by omega)
    clear hcell
    obtain ⟨d, hd⟩ : ∃ d, d = dg ds n := ⟨_, rfl⟩
    rw [← hd] at hx
    obtain ⟨d1, hd1⟩ : ∃ d1, d1 = dg ds (n - 1) := ⟨_, rfl⟩
    rw [← hd1] at hx1
    obtain ⟨r, hr⟩ : ∃ r, r = nearU ds n := ⟨_, rfl⟩
    rw [← hr]
    unfold nearU at hr
    rw [if_neg (by omega), ← hd, ← hd1] at hr
    have HR := Hd.mk hr
    clear hr hd hd1
    go_enter Tryz.func106, Tryz.ntmps106
    go_wp2
    all_goals go_ret
    all_goals refine ⟨ret_bool ?_, 0, rfl⟩
    all_goals rw [HR.out]
    all_goals simp only [beq_iff_eq, beq_eq_false_iff_ne, ne_eq, Bool.not_eq_true] at *
    all_goals split
    all_goals first | (exfalso; omega) | skip
    all_goals rw [Bool.eq_iff_iff]
    all_goals simp
    all_goals omega
  · have hF := Hd.mk (show nearU ds n = false by unfold nearU; rw [if_pos (by omega)])
    clear hcell
    go_enter Tryz.func106, Tryz.ntmps106
    go_wp2
    go_ret
    exact ⟨ret_bool (by rw [hF.out]), 0, rfl⟩
structure WhInv (ds : List Nat) (i x : Nat) : Prop where
  eq : x = tn ds i
  lt : x < 10 ^ i
theorem WhInv.next {ds : List Nat} {i x : Nat} (h : WhInv ds i x) (hd : dg ds i < 10) : WhInv ds (i + 1) (x * 10 + dg ds i) :=
  ⟨by rw [tn, ← h.eq]; omega, by have := h.lt; rw [Nat.pow_succ]; omega⟩
theorem WhInv.lt_of {ds : List Nat} {i x : Nat} (h : WhInv ds i x) (hi : i ≤ 17) : x < 100000000000000000 :=
  Nat.lt_of_lt_of_le h.lt (Nat.pow_le_pow_right (by omega) hi : 10 ^ i ≤ 10 ^ 17)
theorem WhInv.lt_of2 {ds : List Nat} {i x : Nat} (h : WhInv ds i x) (hi : i ≤ 18) : x < 1000000000000000000 :=
  Nat.lt_of_lt_of_le h.lt (Nat.pow_le_pow_right (by omega) hi : 10 ^ i ≤ 10 ^ 18)

set_option maxHeartbeats 1000000 in
set_option maxRecDepth 100000 in
theorem whole_any {g : Nat} {ds : List Nat} {n : Nat} {w : World} (hd : Dc w g ds (n : Int)) (hl : ds.length ≤ 100000) (hdig : ∀ i, dg ds i < 10) (hi : n ≤ 18) :
    Calls Tryz.prog 89 #[.pointer (some ⟨g, 0, none⟩)] w fun e w' => e = .returned (.int .u64 (wholeN ds n : Nat)) ∧ ∃ q, w' = w.drewN q := by
  have HD := Hd.mk hd
  obtain ⟨b, n0, c, hg, hb, hc, hn, hcell⟩ := hd.ex
  clear hcell hn
  have hc1 := at_c1 hg
  clear hg hd
  have HDIG := Hd.mk hdig
  clear hdig
  go_enter Tryz.func89, Tryz.ntmps89
  go_wp2_with fail
  go_loopg [3, 4] n (fun m v3 v4 wr => ∃ i x : Nat, v3 = .int .u64 (x : Int) ∧ v4 = .int .i64 (i : Int) ∧ i + m = n ∧ WhInv ds i x ∧ wr = w)
  case atStart => exact ⟨0, 0, rfl, rfl, by omega, ⟨rfl, by simp⟩, rfl⟩
  case round =>
    obtain ⟨i, x, rfl, rfl, hin, HI, rfl⟩ := hrel
    by_cases hlt : i < n
    · have hd9 := HDIG.out i
      have hx := HI.lt_of (by omega)
      go_wp2_with fail
      refine (digit_any HD.out hl (by omega)).mono ?_
      rintro e w' ⟨rfl, rfl⟩
      go_wp2
      go_roundg (gk - 1)
      case measure => omega
      case rel => exact ⟨i + 1, x * 10 + dg ds i, by go_num, by go_num, by omega, HI.next hd9, rfl⟩
    · obtain rfl : i = n := by omega
      have HN := Hd.mk (show wholeN ds i = x + (nearU ds i).toNat by rw [HI.eq]; rfl)
      have hx := HI.lt_of2 hi
      clear HI
      go_wp2_with fail
      refine (nearUp_any HD.out hl (by omega)).mono ?_
      rintro e w' ⟨rfl, q, rfl⟩
      obtain ⟨v, hv⟩ : ∃ v, nearU ds i = v := ⟨_, rfl⟩
      rw [hv] at HN ⊢
      clear hv
      cases v
      · go_wp2
        go_ret
        exact ⟨ret_num (by rw [HN.out]; simp), _, rfl⟩
      · go_wp2
        go_ret
        exact ⟨ret_num (by rw [HN.out]; simp), _, rfl⟩
set_option maxHeartbeats 1000000 in
set_option maxRecDepth 100000 in
theorem nearUp_neg {g : Nat} {n : Int} {w : World} (hn : n < 0) (h0 : -1000000 ≤ n) :
    Calls Tryz.prog 106 #[.pointer (some ⟨g, 0, none⟩), .int .i64 n] w fun e w' => e = .returned (.bool false) ∧ w = w' := by
  go_enter Tryz.func106, Tryz.ntmps106
  go_wp2
  go_ret
  exact ⟨rfl, rfl⟩

set_option maxHeartbeats 1000000 in
set_option maxRecDepth 100000 in
theorem whole_neg {g : Nat} {ds : List Nat} {dp : Int} {w : World} (hd : Dc w g ds dp) (hn : dp < 0) (h0 : -1000000 ≤ dp) :
    Calls Tryz.prog 89 #[.pointer (some ⟨g, 0, none⟩)] w fun e w' => e = .returned (.int .u64 0) ∧ w = w' := by
  obtain ⟨b, n0, c, hg, hb, hc, _, hcell⟩ := hd.ex
  clear hcell hd
  have hc1 := at_c1 hg
  clear hg
  go_enter Tryz.func89, Tryz.ntmps89
  go_wp2_with fail
  refine wp_loop_rounds 1 ?_
  rw [rounds_succ]
  go_wp2_with fail
  refine (nearUp_neg hn h0).mono ?_
  rintro e w' ⟨rfl, rfl⟩
  go_wp2
  go_ret
  exact ⟨rfl, rfl⟩
end Go.Proofs.YtknjgopapbemcaaGreatDoor
