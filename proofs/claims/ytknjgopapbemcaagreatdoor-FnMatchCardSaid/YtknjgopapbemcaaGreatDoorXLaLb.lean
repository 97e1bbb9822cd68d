/- La Lb: joined by merge.py for the claim. -/
import Derived.Test.YtknjgopapbemcaaGreatDoorXBaBb
import Derived.StillTailTactics
/- Walks of lightstrconv's decimal: trim, half, double, shift. -/
namespace Go.Proofs.YtknjgopapbemcaaGreatDoor
open Go.RowKit
set_option linter.unusedVariables false
set_option linter.unusedSimpArgs false

structure TrimInv (g : Nat) (ds : List Nat) (dp : Int) (w wr : World) (m : Nat) : Prop where
  le : m ≤ ds.length
  eq : trimD ds m = trimD ds ds.length
  dc : Dc wr g (ds.take m) dp
  below : Bel g w wr

theorem Dc.drewN {w : World} {g : Nat} {ds : List Nat} {dp : Int} (h : Dc w g ds dp) (n : Nat) : Dc (w.drewN n) g ds dp := by
  obtain ⟨b, k, c, hg, hb, hc, hn, hcell⟩ := h.ex
  exact ⟨b, k, c, by rw [heap_drewN]; exact hg, hb, hc, hn, fun i hi => by rw [cell_drewN]; exact hcell i hi⟩

theorem trim_end0 {g : Nat} {ds : List Nat} {dp : Int} {w wr : World} {b c : Nat} (h : TrimInv g ds dp w wr 0) (hg : wr.heap[g]? = some (.cells #[.slice (some ⟨b, 0, none⟩) 0 c, .int .i64 dp] 151 (0, 0)))
    (hb : b ≠ g) (n : Nat) : Dc ((wr.drewN n).setCell ⟨g, 1, none⟩ (.int .i64 0)) g (trimD ds ds.length) (trimP (trimD ds ds.length) dp) := by
  rw [← h.eq]
  show Dc _ g [] (trimP [] dp)
  exact Dc.mk' (b := b) (c := c) rfl (set_c1 (by rw [heap_drewN]; exact hg)) hb (Nat.zero_le _) (fun i hi => absurd hi (Nat.not_lt_zero _))

theorem trim_step {g : Nat} {ds : List Nat} {dp : Int} {w wr : World} {b c m x : Nat} (h : TrimInv g ds dp w wr (m + 1)) (hx : dg (ds.take (m + 1)) m = x) (h0 : x = 0)
    (hg : wr.heap[g]? = some (.cells #[.slice (some ⟨b, 0, none⟩) (m + 1) c, .int .i64 dp] 151 (0, 0)))
    (hb : b ≠ g) (hc : m + 1 ≤ c) (hcell : ∀ i, i < m + 1 → wr.cell? ⟨b, i, none⟩ = some (.int .u8 (dg (ds.take (m + 1)) i : Nat))) (n : Nat) :
    TrimInv g ds dp w ((wr.drewN n).setCell ⟨g, 0, none⟩ (.slice (some ⟨b, 0, none⟩) m c)) m := by
  rw [dg_take (by omega)] at hx
  refine ⟨by have := h.le; omega, ?_, dc_cut h.le hg hb hc hcell n, (h.below.drewN _).set _ _⟩
  rw [← h.eq, trimD, if_pos (by omega)]

theorem trim_end1 {g : Nat} {ds : List Nat} {dp : Int} {w wr : World} {m x : Nat} (h : TrimInv g ds dp w wr (m + 1)) (hx : dg (ds.take (m + 1)) m = x) (h0 : x ≠ 0) (n : Nat) :
    Dc (wr.drewN n) g (trimD ds ds.length) (trimP (trimD ds ds.length) dp) := by
  rw [dg_take (by omega)] at hx
  have e : trimD ds (m + 1) = ds.take (m + 1) := by rw [trimD, if_neg (by omega)]
  have hne : ds.take (m + 1) ≠ [] := by
    intro e2
    have := congrArg List.length e2
    rw [List.length_take, List.length_nil] at this
    have := h.le
    omega
  rw [← h.eq, e]
  unfold trimP
  rw [if_neg hne]
  exact h.dc.drewN n

set_option maxHeartbeats 1000000 in
set_option maxRecDepth 100000 in
theorem trim_any (g : Nat) (ds : List Nat) (dp : Int) (w : World) (hd : Dc w g ds dp) (hl : ds.length ≤ 100000) :
    Calls Tryz.prog 83 #[.pointer (some ⟨g, 0, none⟩)] w fun e w' => e = .returned (.pointer (some ⟨g, 0, none⟩)) ∧ Dc w' g (trimD ds ds.length) (trimP (trimD ds ds.length) dp) ∧ Bel g w w' := by
  have H0 : TrimInv g ds dp w w ds.length := ⟨Nat.le_refl _, rfl, by rw [List.take_length]; exact hd, Bel.refl _ _⟩
  clear hd
  go_enter Tryz.func83, Tryz.ntmps83
  go_wp2
  go_loopg [] ds.length (fun m wr => TrimInv g ds dp w wr m)
  case atStart => exact H0
  case round =>
    clear H0
    have H0 := Hd.mk hrel
    obtain ⟨b, n, c, hg, hb, hc, hn, hcell⟩ := hrel.dc.ex
    have hm := hrel.le
    clear hrel
    have hlen : (ds.take gk).length = gk := by rw [List.length_take]; omega
    rw [hlen] at hg hc hn
    clear hlen
    subst hn
    have h0 := at_c0 hg
    have h1 := at_c1 hg
    have hf := free_c hg
    have HG := Hd.mk hg
    clear hg
    cases n with
    | zero =>
      have hgd : decide ((0 : Int) < ((0 : Nat) : Int)) = false := rfl
      clear hcell
      go_wp2_with fail
      go_quiet (fail)
      go_wp2
      go_ret
      refine ⟨rfl, trim_end0 H0.out HG.out hb nq, ?_⟩
      exact (H0.out.below.drewN _).set _ _
    | succ m =>
      have hgd : decide ((0 : Int) < ((m + 1 : Nat) : Int)) = true := by simp
      have hm0 : (0 : Int) ≤ (m : Int) := by omega
      have hm1 : (m : Int) < ((m + 1 : Nat) : Int) := by omega
      have hlast := hcell m (by omega)
      have HC := Hd.mk hcell
      clear hcell
      obtain ⟨x, hx⟩ : ∃ x, dg (List.take (m + 1) ds) m = x := ⟨_, rfl⟩
      rw [hx] at hlast
      have HX := Hd.mk hx
      clear hx
      go_wp2_with fail
      go_quiet (fail)
      go_wp2
      case succ =>
        have hmc : (m : Int) ≤ (c : Int) := by omega
        go_region
        go_wp2
        go_roundg m
        case measure => omega
        case rel => exact trim_step H0.out HX.out (by simpa using ‹((x : Int) == 0) = true›) HG.out hb hc HC.out _
      go_ret
      refine ⟨rfl, ?_, H0.out.below.drewN _⟩
      exact trim_end1 H0.out HX.out (by simpa using ‹((x : Int) == 0) = false›) nq
end Go.Proofs.YtknjgopapbemcaaGreatDoor
/- Walk of lightstrconv's half. -/
namespace Go.Proofs.YtknjgopapbemcaaGreatDoor
open Go.RowKit
set_option linter.unusedVariables false
set_option linter.unusedSimpArgs false

structure H2Inv (P : Nat) (ds out : List Nat) (m n i : Nat) (l : List Nat) : Prop where
  eq : hf2 P ds m n i l = some out
  lt : n < 10 * P
  fuel : i + m ≤ 200000 ∧ l.length + m ≤ 60000

structure H1Inv (P : Nat) (ds : List Nat) (N I m n i : Nat) : Prop where
  eq : hf1 P ds m n i = some (N, I)
  lt : n < 10 * P
  pos : i = 0 ∨ 0 < n
  fuel : i + m ≤ 100000

theorem beq_of_q {n P : Nat} (h : n / P = 0) : ((n : Int) / (P : Int) == 0) = true := by
  have : (n : Int) / (P : Int) = 0 := by omega
  simp [this]
theorem nbeq_of_q {n P : Nat} (h : ¬ n / P = 0) : ((n : Int) / (P : Int) == 0) = false := by
  have : ¬ (n : Int) / (P : Int) = 0 := by omega
  simpa using this
theorem lt_of_q {n P : Nat} (hP : 0 < P) (h : n / P = 0) : n < P := by
  rcases Nat.div_eq_zero_iff.1 h with h | h
  · omega
  · exact h
theorem div9 {n P : Nat} (hP : 0 < P) (h : n < 10 * P) : ((n / P : Nat) : Int) ≤ 9 := by
  have : n / P < 10 := (Nat.div_lt_iff_lt_mul hP).2 h
  omega
theorem half_below {w1 wr w2 : World} {v : Value} {l : List Nat} {o : Obj} (hB : Below w1.heap.size w1 wr) (hO : Own8 wr w1.heap.size v l) (hg : (wr.alloc o).grownBy w2 v.ownBlock) : Below w1.heap.size w1 w2 :=
  (hB.alloc hB.size o).grown hg (by have := hB.size; simp; omega) (fun k hk => (hO.row.lt k hk).1)
theorem half_lt {w1 : World} {b : Nat} {ds : List Nat} (h : ∀ i, i < ds.length → w1.cell? ⟨b, i, none⟩ = some (.int .u8 (dg ds i : Nat))) (h0 : 0 < ds.length) : b < w1.heap.size :=
  World.block_lt_of_cell? w1 ⟨b, 0, none⟩ (h 0 h0)
theorem half_last {w w1 wr : World} {g b c c6 : Nat} {A6 : Option Addr} {ds l : List Nat} {z : Int} (hg : w1.heap[g]? = some (.cells #[.slice (some ⟨b, 0, none⟩) ds.length c, .int .i64 z] 151 (0, 0)))
    (h1 : Bel g w w1) (hB : Below w1.heap.size w1 wr) (hO : Own8 wr w1.heap.size (.slice A6 l.length c6) l) (hl : 0 < l.length) (hgw : g < w.heap.size) :
    Dc (wr.setCell ⟨g, 0, none⟩ (.slice A6 l.length c6)) g l z ∧ Bel g w (wr.setCell ⟨g, 0, none⟩ (.slice A6 l.length c6)) := by
  have hlt := lt_of_block hg
  obtain ⟨b2, c2, e, hb1, hb2, hc2, hcell⟩ := hO.cells hl
  rw [e]
  refine ⟨Dc.mk' (b := b2) (c := c2) rfl (set_c0 (by rw [hB.block g hlt]; exact hg)) (by omega) hc2 (fun i hi => by rw [cell_other (by omega)]; exact hcell i hi), ?_⟩
  exact (h1.trans (Bel.of_below hB)).set _ _
theorem H2Inv.next {P : Nat} {ds out : List Nat} {m n i q r : Nat} {l : List Nat} (h : H2Inv P ds out (m + 1) n i l) (hr : r = n % P) (hq : q = n / P) (hP : 0 < P) (h2 : i < ds.length ∨ 0 < n) (h1 : ds.length ≤ i ∨ dg ds i = 0) :
    H2Inv P ds out m (r * 10) (i + 1) (l ++ [q]) := by
  have hz : dg ds i = 0 := by rcases h1 with h1 | h1; exact dg_end h1; exact h1
  have e := h.eq
  rw [hf2, if_pos h2, hz, ← hr, ← hq] at e
  have := Nat.mod_lt n hP
  exact ⟨e, by omega, by have := h.fuel; rw [List.length_append, List.length_singleton]; omega⟩
theorem H2Inv.next2 {P : Nat} {ds out : List Nat} {m n i q r : Nat} {l : List Nat} (h : H2Inv P ds out (m + 1) n i l) (hr : r = n % P) (hq : q = n / P) (hP : 0 < P) (h2 : i < ds.length) (hd : dg ds i < 10) :
    H2Inv P ds out m (r * 10 + dg ds i) (i + 1) (l ++ [q]) := by
  have e := h.eq
  rw [hf2, if_pos (.inl h2), ← hr, ← hq] at e
  have := Nat.mod_lt n hP
  exact ⟨e, by omega, by have := h.fuel; rw [List.length_append, List.length_singleton]; omega⟩
theorem H2Inv.done {P : Nat} {ds out : List Nat} {m n i : Nat} {l : List Nat} (h : H2Inv P ds out (m + 1) n i l) (h2 : ¬i < ds.length ∧ ¬0 < n) : out = l := by
  have e := h.eq
  rw [hf2, if_neg (by omega)] at e
  simpa using e.symm
theorem u64_fit {n : Int} (h0 : 0 ≤ n) (h1 : n ≤ 18446744073709551615) : IntKind.u64.wrap n = n := IntWalk.u64_in n ⟨h0, h1⟩
theorem u64_mul10 {n P : Nat} (h : n < P) (hP : P ≤ 576460752303423488) : IntKind.u64.wrap ((n : Int) * 10) = ((n * 10 : Nat) : Int) := by
  rw [u64_fit (by omega) (by omega)]; omega

theorem H1Inv.next {P : Nat} {ds : List Nat} {N I m n i : Nat} (h : H1Inv P ds N I (m + 1) n i) (hP : 0 < P) (hq : n / P = 0) (hp : (ds.length ≤ i ∧ 0 < n)) : H1Inv P ds N I m (n * 10) (i + 1) := by
  have hg : dg ds i = 0 := dg_end hp.1
  have e := h.eq
  rw [hf1, if_pos hq, hg] at e
  exact ⟨e, by have := lt_of_q hP hq; omega, .inr (by omega), by have := h.fuel; omega⟩
theorem H1Inv.next2 {P : Nat} {ds : List Nat} {N I m n i d : Nat} (h : H1Inv P ds N I (m + 1) n i) (hP : 0 < P) (hq : n / P = 0) (hd : dg ds i = d) (hd9 : d < 10) (hp : i = 0 → 0 < d) : H1Inv P ds N I m (n * 10 + d) (i + 1) := by
  have e := h.eq
  rw [hf1, if_pos hq, hd] at e
  refine ⟨e, by have := lt_of_q hP hq; omega, .inr ?_, by have := h.fuel; omega⟩
  rcases h.pos with h | h
  · have := hp h; omega
  · omega

theorem u64_mul10d {n P d : Nat} (h : n < P) (hP : P ≤ 576460752303423488) (hd : d < 10) :
    IntKind.u64.wrap (IntKind.u64.wrap ((n : Int) * 10) + (d : Int)) = ((n * 10 + d : Nat) : Int) := by
  rw [u64_mul10 h hP, u64_fit (by omega) (by omega)]; omega
theorem H1Inv.done {P : Nat} {ds : List Nat} {N I m n i : Nat} (h : H1Inv P ds N I (m + 1) n i) (hq : ¬ n / P = 0) : n = N ∧ i = I := by
  have e := h.eq
  rw [hf1, if_neg hq] at e
  simpa using e

set_option maxHeartbeats 1000000 in
set_option maxRecDepth 100000 in
theorem half_any (g : Nat) (ds out : List Nat) (dp : Int) (k P N I : Nat) (w : World) (hd : Dc w g ds dp) (hl : ds.length ≤ 40000) (hdig : ∀ i, dg ds i < 10) (hd0 : 0 < dg ds 0) (hpos : 0 < ds.length)
    (hk1 : 1 ≤ k) (hk2 : k ≤ 59) (hP : (2 : Int) ^ k = (P : Int)) (hPb : P ≤ 576460752303423488) (hPp : 0 < P) (hdp : -1000000 ≤ dp ∧ dp ≤ 1000000)
    (h1 : hf1 P ds 60000 0 0 = some (N, I)) (h2 : hf2 P ds 60000 N I [] = some out) (hout : 0 < out.length) (hgw0 : g < w.heap.size) :
    Calls Tryz.prog 87 #[.pointer (some ⟨g, 0, none⟩), .int .i64 (k : Int)] w fun e w' => e = .returned (.tuple #[]) ∧ Dc w' g (trimD out out.length) (trimP (trimD out out.length) (dp - ((I : Int) - 1))) ∧ Bel g w w' := by
  have hgB := Hd.mk hgw0
  clear hgw0
  have HI : H1Inv P ds N I 60000 0 0 := ⟨h1, by omega, .inl rfl, by omega⟩
  clear h1
  have H2 := Hd.mk h2
  clear h2
  obtain ⟨b, n0, c, hg, hb, hc, hn, hcell⟩ := hd.ex
  subst hn
  have hc0 := at_c0 hg
  have hc1 := at_c1 hg
  have hf := free_c hg
  have HG := Hd.mk hg
  clear hg hd
  have hk3 : (0 : Int) ≤ (k : Int) := by omega
  have hk4 : (k : Int) ≤ 59 := by omega
  have HDIG := Hd.mk hdig
  clear hdig
  go_enter Tryz.func87, Tryz.ntmps87
  go_wp2
  go_loopg [4, 5] 60000 (fun m v4 v5 w' => ∃ n i : Nat, v4 = .int .u64 n ∧ v5 = .int .i64 i ∧ H1Inv P ds N I m n i ∧ w' = w)
  case atStart => exact ⟨0, 0, rfl, rfl, HI, rfl⟩
  case round =>
    clear HI
    obtain ⟨n, i, rfl, rfl, HI, rfl⟩ := hrel
    cases gk with
    | zero => exact absurd HI.eq (by simp [hf1])
    | succ m =>
      have hn1 := HI.lt
      have hi1 := HI.fuel
      have hdi : dg ds i < 10 := HDIG.out i
      by_cases hq : n / P = 0
      · have hqb : ((n : Int) / (P : Int) == 0) = true := beq_of_q hq
        go_wp2
        · exact absurd HI.pos (by
            have h1 : n = 0 := by simpa using ‹((n : Int) == 0) = true›
            have h2 : ds.length ≤ i := by assumption
            omega)
        · have hz : 0 < n := by
            have : ¬ n = 0 := by simpa using ‹((n : Int) == 0) = false›
            omega
          have hlen : ds.length ≤ i := by assumption
          go_roundg m
          case measure => omega
          case rel => exact ⟨n * 10, i + 1, by rw [u64_mul10 (lt_of_q hPp hq) hPb], by go_num, HI.next hPp hq ⟨hlen, hz⟩, rfl⟩
        · have hlen : i < ds.length := by assumption
          go_roundg m
          case measure => omega
          case rel => exact ⟨n * 10 + dg ds i, i + 1, by rw [u64_mul10d (lt_of_q hPp hq) hPb hdi], by go_num, HI.next2 hPp hq rfl hdi (by rintro rfl; exact hd0), rfl⟩
      have hqb : ((n : Int) / (P : Int) == 0) = false := nbeq_of_q hq
      go_wp2
      clear hqb
      have hfin := HI.done hq
      have N10 := Hd.mk hn1
      have hi2 : i ≤ 100000 := by omega
      clear hn1 hi1 hdi HI
      obtain ⟨rfl, rfl⟩ := hfin
      obtain ⟨z, hz⟩ : ∃ z : Int, z = dp - ((i : Int) - 1) := ⟨_, rfl⟩
      rw [← hz]
      have HZ := Hd.mk hz
      clear hz hf
      obtain ⟨w1, hw1⟩ : ∃ w1, w1 = wr.setCell ⟨g, 1, none⟩ (.int .i64 z) := ⟨_, rfl⟩
      have hg1 : w1.heap[g]? = some (.cells #[.slice (some ⟨b, 0, none⟩) ds.length c, .int .i64 z] 151 (0, 0)) := by rw [hw1]; exact set_c1 HG.out
      have hcell1 : ∀ i, i < ds.length → w1.cell? ⟨b, i, none⟩ = some (.int .u8 (dg ds i : Nat)) := by
        intro i hi; rw [hw1, cell_other hb]; exact hcell i hi
      have hB1 : Bel g wr w1 := by rw [hw1]; exact (Bel.refl _ _).set _ _
      rw [← hw1]
      clear hw1 hcell hc0 hc1 HG
      have HB1 := Hd.mk hB1
      have HG1 := Hd.mk hg1
      have HC1 := Hd.mk hcell1
      clear hB1 hg1 hcell1
      have H0 : H2Inv P ds out 60000 n i [] := ⟨H2.out, N10.out, by simp; omega⟩
      clear H2
      go_loopg [4, 5, 6] 60000 (fun m v4 v5 v6 w' => ∃ (n i : Nat) (l : List Nat), v4 = .int .u64 n ∧ v5 = .int .i64 i ∧ H2Inv P ds out m n i l ∧ Own8 w' w1.heap.size v6 l ∧ Below w1.heap.size w1 w')
      case atStart => exact ⟨n, i, [], rfl, rfl, H0, own8_nil _ _, Below.refl _ _⟩
      case round =>
        clear H0 N10
        obtain ⟨n, i, l, rfl, rfl, HI, HO, HB⟩ := hrel
        cases gk with
        | zero => exact absurd HI.eq (by simp [hf2])
        | succ m =>
          have hgw := lt_of_block HG1.out
          have hc0 : wr.cell? ⟨g, 0, none⟩ = some (.slice (some ⟨b, 0, none⟩) ds.length c) := by rw [HB.cell hgw]; exact at_c0 HG1.out
          have hi1 := HI.fuel
          have hn1 := HI.lt
          have HHB := Hd.mk HB
          clear HB
          have hwB : w1.heap.size ≤ wr.heap.size := HHB.out.size
          have hfg : wr.frozen? ⟨g, 0, none⟩ = false := by rw [HHB.out.frozen hgw]; exact free_c HG1.out 0
          obtain ⟨q, hq⟩ : ∃ q : Nat, q = n / P := ⟨_, rfl⟩
          have hqe : (n : Int) / (P : Int) = (q : Int) := by rw [hq]; rfl
          have hq9 : (q : Int) ≤ 9 := by rw [hq]; exact div9 hPp hn1
          have HQ := Hd.mk hq
          clear hq
          obtain ⟨r, hr⟩ : ∃ r : Nat, r = n % P := ⟨_, rfl⟩
          have hra : bits .and .u64 (n : Int) ((P : Int) - 1) = (r : Int) := by rw [hr]; exact u64_mask n P k (by omega) (by omega) hP
          have hrP : r < P := by rw [hr]; exact Nat.mod_lt _ hPp
          have HR := Hd.mk hr
          clear hr
          have hll : l.length ≤ 1000000000 := by omega
          obtain ⟨A6, c6, rfl⟩ := HO.shape
          have hdi : dg ds i < 10 := HDIG.out i
          go_wp2_with (first | (at_builtin; refine wpList_app8 rfl _ _ rfl w1.heap.size _ l rfl (HO.row.alloc _) ⟨wr.heap.size, 0, none⟩ q rfl (cell_one_new _ _ _) hll (by simp; omega) ?_; intro v2 w2 hown2 hgr2; have HB2 := Hd.mk (half_below HHB.out HO hgr2); have HO2 : Own8 w2 w1.heap.size v2 (l ++ [q]) := ⟨hown2⟩; clear hown2 hgr2; have hc02 : w2.cell? ⟨g, 0, none⟩ = some (.slice (some ⟨b, 0, none⟩) ds.length c) := (by rw [HB2.out.cell hgw]; exact at_c0 HG1.out); have hcb2 : i < ds.length → w2.cell? ⟨b, i, none⟩ = some (.int .u8 (dg ds i : Nat)) := (fun hi => (by rw [HB2.out.cell (half_lt HC1.out hpos)]; exact HC1.out i hi))))
          · have h1 : ds.length ≤ i := by assumption
            have h2 : i < ds.length ∨ 0 < n := by assumption
            go_roundg m
            case measure => omega
            case rel => exact ⟨r * 10, i + 1, l ++ [q], by go_num, by go_num, HI.next HR.out HQ.out hPp h2 (.inl h1), HO2, HB2.out⟩
          · have h2 : ¬i < ds.length ∧ ¬0 < n := by assumption
            obtain rfl := HI.done h2
            have HT := Hd.mk (half_last HG1.out HB1.out HHB.out HO hout hgB.out)
            clear HO
            refine (trim_any g out z _ HT.out.1 (by have := HI.fuel; omega)).mono ?_
            rintro e w4 ⟨rfl, hd4, hb4⟩
            go_wp2
            go_end0
            refine ⟨rfl, ?_, HT.out.2.trans hb4⟩
            rw [← HZ.out]
            exact hd4
          · have h1 : i < ds.length := by assumption
            go_roundg m
            case measure => omega
            case rel => exact ⟨r * 10 + dg ds i, i + 1, l ++ [q], by go_num, by go_num, HI.next2 HR.out HQ.out hPp h1 hdi, HO2, HB2.out⟩
end Go.Proofs.YtknjgopapbemcaaGreatDoor
