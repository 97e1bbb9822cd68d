/- Dl Dm: joined by merge.py for the claim. -/
import Derived.Test.YtknjgopapbemcaaGreatDoorXDiDk
import Derived.Test.YtknjgopapbemcaaGreatDoorXDh
/- Walk of internal/strconv's Shift. -/
namespace Go.Proofs.YtknjgopapbemcaaGreatDoor
open Go.RowKit
set_option linter.unusedVariables false
set_option linter.unusedSimpArgs false
theorem Bel.toBelow {g : Nat} {w0 w w' : World} (h0 : Below w0.heap.size w0 w) (hg : w0.heap.size ≤ g) (h : Bel g w w') : Below w0.heap.size w0 w' :=
  ⟨h.os.trans h0.os, h.tape.trans h0.tape, h.output.trans h0.output, Nat.le_trans h0.size h.size, fun k hk => (h.block k (Nat.lt_of_lt_of_le hk h0.size) (by omega)).trans (h0.block k hk)⟩
/-- The decimal while it is shifted. -/
structure Dst (K : Nat) (w0 : World) (g : Nat) (neg : Bool) (N M : Nat) (w : World) (c : Nat) (ds : List Nat) (dp e : Int) (tr : Bool) : Prop where
  dm : Dm w g ds dp neg tr
  vd : Vd 800 ds
  last : c = 0 ∨ 0 < dg ds (ds.length - 1)
  ap : Ap K c (vn ds dp) (Go.Proofs.YtknjgopapbemcaaGreatDoor.vd ds dp) e N M tr
  bel : Below w0.heap.size w0 w
  gg : w0.heap.size ≤ g
theorem Dst.drewN {K g c N M : Nat} {w0 w : World} {neg tr : Bool} {ds : List Nat} {dp e : Int} (h : Dst K w0 g neg N M w c ds dp e tr) (n : Nat) : Dst K w0 g neg N M (w.drewN n) c ds dp e tr := by
  obtain ⟨f, hr, hd⟩ := h.dm.ex
  exact ⟨⟨⟨f, hr.drewN n, hd⟩, h.dm.le, h.dm.dig⟩, h.vd, h.last, h.ap, below_drewN h.bel n, h.gg⟩
/-- One shift to the right. -/
theorem rsh_st {K g c N M k : Nat} {w0 w : World} {neg tr : Bool} {ds : List Nat} {dp e : Int} (h : Dst K w0 g neg N M w c ds dp e tr) (hK : K = 10 ^ 799) (hM : 0 < M) (hk1 : 1 ≤ k) (hk2 : k ≤ 60) (hdp1 : -900000 ≤ dp) (hdp2 : dp ≤ 400)
    (hbig : e + k ≤ 35 ∨ vd ds dp ≤ vn ds dp * 2 ^ 40) :
    Calls Tryz.prog 126 #[.pointer (some ⟨g, 0, none⟩), .int .u64 (k : Int)] w fun r w' => r = .returned (.tuple #[]) ∧ ∃ ds' dp' tr', Dst K w0 g neg N M w' (c + 1) ds' dp' (e + k) tr' ∧
      vn ds' dp' * 2 ^ k * vd ds dp ≤ vn ds dp * vd ds' dp' ∧ dp - 20 ≤ dp' ∧ dp' ≤ dp := by
  obtain ⟨f, hr, hd⟩ := h.dm.ex
  obtain ⟨s1, s2, s3, s4, s5, s6, s7, s8, s9⟩ := half_specX h.vd (by omega) hk1 hk2
  have hPb : 2 ^ k ≤ 1152921504606846976 := two_pow_le (m := 60) hk2
  refine (rsh_any g f ds (halfO k ds) dp neg tr k (2 ^ k) (halfI k ds).1 (halfI k ds).2 w hr hd h.dm.le h.vd.dig h.vd.first h.vd.pos hk1 hk2 (by simp) hPb (Nat.two_pow_pos k) ⟨by omega, by omega⟩ s1 s2 s4.dig).mono ?_
  rintro r w' ⟨rfl, hdm, hb⟩
  refine ⟨rfl, keep (halfO k ds), halfP k ds dp, tr || nz ((halfO k ds).drop 800), ?_, ?_, ?_, ?_⟩
  · obtain ⟨kv, kl⟩ := keep_vd s4
    have hfr := half_fracX h.vd (by omega) hk1 hk2 dp
    have hap := (ap_next h.ap hK hM s4 (dp' := halfP k ds dp) (i := k) (j := 0) hfr (e' := e + k) (by omega) (by unfold halfP; omega) ?_).1
    · refine ⟨?_, kv, .inr kl, hap, Bel.toBelow h.bel h.gg hb, h.gg⟩
      have e1 : trimP (keep (halfO k ds)) (halfP k ds dp) = halfP k ds dp := trimP_vd kv _
      have e2 : Dm w' g (keep (halfO k ds)) (trimP (keep (halfO k ds)) (halfP k ds dp)) neg (tr || nz ((halfO k ds).drop 800)) := hdm
      rw [e1] at e2
      exact e2
    · rcases hbig with hb | hb
      · exact .inl hb
      · right
        have hfr' : vn (trimD (halfO k ds) (halfO k ds).length) (halfP k ds dp) * 2 ^ k * vd ds dp = vn ds dp * 2 ^ 0 * vd (trimD (halfO k ds) (halfO k ds).length) (halfP k ds dp) := hfr
        generalize vn (trimD (halfO k ds) (halfO k ds).length) (halfP k ds dp) = a' at *
        generalize vd (trimD (halfO k ds) (halfO k ds).length) (halfP k ds dp) = b' at *
        refine Nat.le_of_mul_le_mul_right (c := vd ds dp) ?_ (vd_pos _ _)
        calc b' * vd ds dp ≤ b' * (vn ds dp * 2 ^ 40) := Nat.mul_le_mul_left _ hb
          _ = vn ds dp * 2 ^ 0 * b' * 2 ^ 40 := by rw [Nat.pow_zero, Nat.mul_one]; ac_rfl
          _ = a' * 2 ^ (k + 40) * vd ds dp := by rw [← hfr', Nat.pow_add]; ac_rfl
          _ ≤ a' * 2 ^ 100 * vd ds dp := Nat.mul_le_mul_right _ (Nat.mul_le_mul_left _ (two_pow_le (by omega)))
  · have hfr := half_fracX h.vd (by omega) hk1 hk2 dp
    have hcr : vn (keep (halfO k ds)) (halfP k ds dp) * vd (halfD k ds) (halfP k ds dp) ≤ vn (halfD k ds) (halfP k ds dp) * vd (keep (halfO k ds)) (halfP k ds dp) := by
      cases hz : nz ((halfO k ds).drop 800) with
      | false => rw [keep_all s4 hz]; exact Nat.le_refl _
      | true =>
        obtain ⟨h8, hk⟩ := keep_cut s4 hz
        rw [hk]
        exact Nat.le_of_lt (keep_frac s5 s6 h8 _ hK).1
    refine Nat.le_of_mul_le_mul_right (c := vd (halfD k ds) (halfP k ds dp)) ?_ (vd_pos _ _)
    generalize vd (keep (halfO k ds)) (halfP k ds dp) = b2 at *
    generalize vn (keep (halfO k ds)) (halfP k ds dp) = a2 at *
    calc a2 * 2 ^ k * vd ds dp * vd (halfD k ds) (halfP k ds dp) = a2 * vd (halfD k ds) (halfP k ds dp) * (2 ^ k * vd ds dp) := by ac_rfl
      _ ≤ vn (halfD k ds) (halfP k ds dp) * b2 * (2 ^ k * vd ds dp) := Nat.mul_le_mul_right _ hcr
      _ = vn (halfD k ds) (halfP k ds dp) * 2 ^ k * vd ds dp * b2 := by ac_rfl
      _ = vn ds dp * b2 * vd (halfD k ds) (halfP k ds dp) := by rw [hfr, Nat.pow_zero, Nat.mul_one]; ac_rfl
  · unfold halfP; omega
  · unfold halfP; omega
/-- One shift to the left. -/
theorem lsh_st {K g c N M k : Nat} {w0 w : World} {neg tr : Bool} {ds : List Nat} {dp e : Int} (h : Dst K w0 g neg N M w c ds dp e tr) (hG : Gl w0) (hK : K = 10 ^ 799) (hM : 0 < M) (hk1 : 1 ≤ k) (hk2 : k ≤ 60) (hdp1 : -900000 ≤ dp) (hdp2 : dp ≤ 380)
    (hbig : e - k ≤ 35 ∨ vd ds dp ≤ vn ds dp * 2 ^ 100) :
    Calls Tryz.prog 125 #[.pointer (some ⟨g, 0, none⟩), .int .u64 (k : Int)] w fun r w' => r = .returned (.tuple #[]) ∧ ∃ ds' dp' tr', Dst K w0 g neg N M w' (c + 1) ds' dp' (e - k) tr' ∧
      vn ds' dp' * vd ds dp ≤ vn ds dp * 2 ^ k * vd ds' dp' ∧ dp ≤ dp' ∧ dp' ≤ dp + 20 := by
  obtain ⟨f, hr, hd⟩ := h.dm.ex
  obtain ⟨s1, s2, s3, s4, s5, s6, s7, s8⟩ := dbl_specX h.vd (by omega) hk2
  have hPb : 2 ^ k ≤ 1152921504606846976 := two_pow_le (m := 60) hk2
  obtain ⟨dl, hdl⟩ : ∃ dl, (dblO k ds).length = ds.length + dl := ⟨(dblO k ds).length - ds.length, by omega⟩
  have hlen := dbl_len h.vd (by omega) hk1 hk2
  have hdig : ∀ i, dg (dblO k ds) i < 10 := by
    intro i
    rcases Nat.lt_or_ge i (dblO k ds).length with hi | hi
    · have := s3.dig ((dblO k ds).length - 1 - i)
      rw [dg_reverse (by omega), show (dblO k ds).length - 1 - ((dblO k ds).length - 1 - i) = i by omega] at this
      exact this
    · rw [dg_end hi]; omega
  have hdP : dp + dl = dblP k ds dp := by unfold dblP; omega
  refine (lsh_any g f ds (dblO k ds) dp neg tr k (2 ^ k) dl w (hG.below h.bel) hr hd h.dm.le h.vd.dig h.vd.pos hk1 hk2 (by simp) hPb (Nat.two_pow_pos k) ⟨by omega, by omega⟩ s1 hdig hdl (by omega)).mono ?_
  rintro r w' ⟨rfl, hdm, hb⟩
  have hfr := dbl_fracX h.vd (by omega) hk2 dp
  have hrl : (dblO k ds).reverse.length = (dblO k ds).length := List.length_reverse
  have hD : dblD k ds = trimD (dblO k ds).reverse (dblO k ds).reverse.length := by unfold dblD; rw [hrl]
  rw [hD] at hfr s4 s5
  rw [hdP] at hdm
  have hd20 : dblP k ds dp ≤ dp + 20 := by omega
  refine ⟨rfl, keep (dblO k ds).reverse, dblP k ds dp, tr || nz ((dblO k ds).reverse.drop 800), ?_, ?_, ?_, ?_⟩
  · obtain ⟨kv, kl⟩ := keep_vd s3
    have hap := (ap_next h.ap hK hM s3 (dp' := dblP k ds dp) (i := 0) (j := k) hfr (e' := e - k) (by omega) (by omega) ?_).1
    · refine ⟨?_, kv, .inr kl, hap, Bel.toBelow h.bel h.gg hb, h.gg⟩
      have e1 : trimP (keep (dblO k ds).reverse) (dblP k ds dp) = dblP k ds dp := trimP_vd kv _
      have e2 : Dm w' g (keep (dblO k ds).reverse) (trimP (keep (dblO k ds).reverse) (dblP k ds dp)) neg (tr || nz ((dblO k ds).reverse.drop 800)) := hdm
      rw [e1] at e2
      exact e2
    · rcases hbig with hb | hb
      · exact .inl hb
      · right
        generalize vn (trimD (dblO k ds).reverse (dblO k ds).reverse.length) (dblP k ds dp) = a' at *
        generalize vd (trimD (dblO k ds).reverse (dblO k ds).reverse.length) (dblP k ds dp) = b' at *
        rw [Nat.pow_zero, Nat.mul_one] at hfr
        refine Nat.le_of_mul_le_mul_right (c := vd ds dp) ?_ (vd_pos _ _)
        calc b' * vd ds dp ≤ b' * (vn ds dp * 2 ^ 100) := Nat.mul_le_mul_left _ hb
          _ ≤ b' * (vn ds dp * 2 ^ 100) * 2 ^ k := Nat.le_mul_of_pos_right _ (Nat.two_pow_pos k)
          _ = vn ds dp * 2 ^ k * b' * 2 ^ 100 := by ac_rfl
          _ = a' * 2 ^ 100 * vd ds dp := by rw [← hfr]; ac_rfl
  · have hcr : vn (keep (dblO k ds).reverse) (dblP k ds dp) * vd (trimD (dblO k ds).reverse (dblO k ds).reverse.length) (dblP k ds dp) ≤ vn (trimD (dblO k ds).reverse (dblO k ds).reverse.length) (dblP k ds dp) * vd (keep (dblO k ds).reverse) (dblP k ds dp) := by
      cases hz : nz ((dblO k ds).reverse.drop 800) with
      | false => rw [keep_all s3 hz]; exact Nat.le_refl _
      | true =>
        obtain ⟨h8, hk⟩ := keep_cut s3 hz
        rw [hk]
        exact Nat.le_of_lt (keep_frac s4 s5 h8 _ hK).1
    rw [Nat.pow_zero, Nat.mul_one] at hfr
    refine Nat.le_of_mul_le_mul_right (c := vd (trimD (dblO k ds).reverse (dblO k ds).reverse.length) (dblP k ds dp)) ?_ (vd_pos _ _)
    generalize vd (keep (dblO k ds).reverse) (dblP k ds dp) = b2 at *
    generalize vn (keep (dblO k ds).reverse) (dblP k ds dp) = a2 at *
    generalize vn (trimD (dblO k ds).reverse (dblO k ds).reverse.length) (dblP k ds dp) = a' at *
    generalize vd (trimD (dblO k ds).reverse (dblO k ds).reverse.length) (dblP k ds dp) = b' at *
    calc a2 * vd ds dp * b' = a2 * b' * vd ds dp := by ac_rfl
      _ ≤ a' * b2 * vd ds dp := Nat.mul_le_mul_right _ hcr
      _ = a' * vd ds dp * b2 := by ac_rfl
      _ = vn ds dp * 2 ^ k * b2 * b' := by rw [hfr]; ac_rfl
  · omega
  · exact hd20
end Go.Proofs.YtknjgopapbemcaaGreatDoor
/- Walk of internal/strconv's Shift. -/
namespace Go.Proofs.YtknjgopapbemcaaGreatDoor
open Go.RowKit
set_option linter.unusedVariables false
set_option linter.unusedSimpArgs false
theorem Dst.nd {K g c N M : Nat} {w0 w : World} {neg tr : Bool} {ds : List Nat} {dp e : Int} (h : Dst K w0 g neg N M w c ds dp e tr) : w.cell? ⟨g, 800, none⟩ = some (.int .i64 (ds.length : Nat)) := by
  obtain ⟨f, hr, hd⟩ := h.dm.ex; exact hr.cnd
theorem Dst.dpc {K g c N M : Nat} {w0 w : World} {neg tr : Bool} {ds : List Nat} {dp e : Int} (h : Dst K w0 g neg N M w c ds dp e tr) : w.cell? ⟨g, 801, none⟩ = some (.int .i64 dp) := by
  obtain ⟨f, hr, hd⟩ := h.dm.ex; exact hr.cdp
theorem Dst.d0 {K g c N M : Nat} {w0 w : World} {neg tr : Bool} {ds : List Nat} {dp e : Int} (h : Dst K w0 g neg N M w c ds dp e tr) : w.cell? ⟨g, 0, none⟩ = some (.int .u8 ((48 + dg ds 0 : Nat) : Int)) := by
  obtain ⟨f, hr, hd⟩ := h.dm.ex; rw [hr.cell 0 (by omega), hd 0 h.vd.pos]
/-- Shift to the left. -/
theorem shL {K g c N M k : Nat} {w0 w : World} {neg tr : Bool} {ds : List Nat} {dp e : Int} (h : Dst K w0 g neg N M w c ds dp e tr) (hG : Gl w0) (hK : K = 10 ^ 799) (hM : 0 < M) (hk1 : 1 ≤ k) (hk2 : k ≤ 60) (hdp1 : -900000 ≤ dp) (hdp2 : dp ≤ 380)
    (hbig : e - k ≤ 35 ∨ vd ds dp ≤ vn ds dp * 2 ^ 100) :
    Calls Tryz.prog 120 #[.pointer (some ⟨g, 0, none⟩), .int .i64 (k : Int)] w fun r w' => r = .returned (.tuple #[]) ∧ ∃ ds' dp' tr', Dst K w0 g neg N M w' (c + 1) ds' dp' (e - k) tr' ∧
      vn ds' dp' * vd ds dp ≤ vn ds dp * 2 ^ k * vd ds' dp' ∧ dp ≤ dp' ∧ dp' ≤ dp + 20 := by
  have HC := Hd.mk (lsh_st h hG hK hM hk1 hk2 hdp1 hdp2 hbig)
  have hcn := h.nd
  have hpos := h.vd.pos
  have hnz : ((ds.length : Int) == 0) = false := by simp; intro e; rw [e] at hpos; simp at hpos
  have hkp : decide ((0 : Int) < (k : Int)) = true := decide_eq_true (by omega)
  have hk6 : decide ((60 : Int) < (k : Int)) = false := decide_eq_false (by omega)
  have hfit : IntKind.u64.wrap (k : Int) = (k : Int) := u64_fit (by omega) (by omega)
  clear h hbig
  go_enter Tryz.func120, Tryz.ntmps120
  go_wp2
  go_loopg [1] 0 (fun _ v1 wr => v1 = .int .i64 (k : Int) ∧ w = wr)
  case atStart => exact ⟨rfl, rfl⟩
  case round =>
    obtain ⟨rfl, rfl⟩ := hrel
    go_wp2_with (go_at_call 125; ((with_reducible refine (HC.out).mono ?_); rintro r w' ⟨rfl, hp⟩))
    go_end0
    exact ⟨rfl, hp⟩
/-- Shift to the right, by 60 at most. -/
theorem shR {K g c N M k : Nat} {w0 w : World} {neg tr : Bool} {ds : List Nat} {dp e : Int} (h : Dst K w0 g neg N M w c ds dp e tr) (hK : K = 10 ^ 799) (hM : 0 < M) (hk1 : 1 ≤ k) (hk2 : k ≤ 60) (hdp1 : -900000 ≤ dp) (hdp2 : dp ≤ 400)
    (hbig : e + k ≤ 35 ∨ vd ds dp ≤ vn ds dp * 2 ^ 40) :
    Calls Tryz.prog 120 #[.pointer (some ⟨g, 0, none⟩), .int .i64 (-(k : Int))] w fun r w' => r = .returned (.tuple #[]) ∧ ∃ ds' dp' tr', Dst K w0 g neg N M w' (c + 1) ds' dp' (e + k) tr' ∧
      vn ds' dp' * 2 ^ k * vd ds dp ≤ vn ds dp * vd ds' dp' ∧ dp - 20 ≤ dp' ∧ dp' ≤ dp := by
  have HC := Hd.mk (rsh_st h hK hM hk1 hk2 hdp1 hdp2 hbig)
  have hcn := h.nd
  have hpos := h.vd.pos
  have hnz : ((ds.length : Int) == 0) = false := by simp; intro e; rw [e] at hpos; simp at hpos
  have hkp : decide ((0 : Int) < -(k : Int)) = false := decide_eq_false (by omega)
  have hkn : decide (-(k : Int) < 0) = true := decide_eq_true (by omega)
  have hk6 : decide (-(k : Int) < -60) = false := decide_eq_false (by omega)
  have hfit : IntKind.u64.wrap (k : Int) = (k : Int) := u64_fit (by omega) (by omega)
  clear h hbig
  go_enter Tryz.func120, Tryz.ntmps120
  go_wp2
  go_loopg [1] 0 (fun _ v1 wr => v1 = .int .i64 (-(k : Int)) ∧ w = wr)
  case atStart => exact ⟨rfl, rfl⟩
  case round =>
    obtain ⟨rfl, rfl⟩ := hrel
    go_wp2_with (go_at_call 126; ((with_reducible refine (HC.out).mono ?_); rintro r w' ⟨rfl, hp⟩))
    go_end0
    exact ⟨rfl, hp⟩
/-- Shift to the right, by more than 60. -/
theorem shR2 {K g c N M k : Nat} {w0 w : World} {neg tr : Bool} {ds : List Nat} {dp e : Int} (h : Dst K w0 g neg N M w c ds dp e tr) (hK : K = 10 ^ 799) (hM : 0 < M) (hk1 : 1 ≤ k) (hk2 : k ≤ 60) (hdp1 : -800000 ≤ dp) (hdp2 : dp ≤ 400)
    (hbig : e + 60 + k ≤ 35) :
    Calls Tryz.prog 120 #[.pointer (some ⟨g, 0, none⟩), .int .i64 (-(60 + (k : Int)))] w fun r w' => r = .returned (.tuple #[]) ∧ ∃ ds' dp' tr', Dst K w0 g neg N M w' (c + 2) ds' dp' (e + 60 + k) tr' ∧
      dp - 40 ≤ dp' ∧ dp' ≤ dp := by
  have HC : Hd (Calls Tryz.prog 126 #[.pointer (some ⟨g, 0, none⟩), .int .u64 60] w fun r w' => r = .returned (.tuple #[]) ∧ ∃ ds' dp' tr', Dst K w0 g neg N M w' (c + 1) ds' dp' (e + (60 : Nat)) tr' ∧
      vn ds' dp' * 2 ^ 60 * vd ds dp ≤ vn ds dp * vd ds' dp' ∧ dp - 20 ≤ dp' ∧ dp' ≤ dp) := ⟨rsh_st h hK hM (k := 60) (by omega) (by omega) (by omega) hdp2 (.inl (by omega))⟩
  have HC2 : Hd (∀ w' ds' dp' tr', Dst K w0 g neg N M w' (c + 1) ds' dp' (e + (60 : Nat)) tr' → -900000 ≤ dp' → dp' ≤ 400 → Calls Tryz.prog 126 #[.pointer (some ⟨g, 0, none⟩), .int .u64 (k : Int)] w' fun r w'' => r = .returned (.tuple #[]) ∧ ∃ ds'' dp'' tr'', Dst K w0 g neg N M w'' (c + 2) ds'' dp'' (e + 60 + k) tr'' ∧
      dp' - 20 ≤ dp'' ∧ dp'' ≤ dp') := ⟨fun w' ds' dp' tr' h' h1 h2 => (rsh_st h' hK hM hk1 hk2 h1 h2 (.inl (by omega))).mono (by
        rintro r w'' ⟨e1, ds'', dp'', tr'', e2, e3, e4, e5⟩
        exact ⟨e1, ds'', dp'', tr'', by rw [show e + 60 + (k : Int) = e + ((60 : Nat) : Int) + k by omega]; exact e2, e4, e5⟩)⟩
  have hcn := h.nd
  have hpos := h.vd.pos
  have hnz : ((ds.length : Int) == 0) = false := by simp; intro e; rw [e] at hpos; simp at hpos
  have hkp : decide ((0 : Int) < -(60 + (k : Int))) = false := decide_eq_false (by omega)
  have hkn : decide (-(60 + (k : Int)) < 0) = true := decide_eq_true (by omega)
  have hkn2 : decide ((0 : Int) < 60 + (k : Int)) = true := decide_eq_true (by omega)
  have hkp2 : decide (60 + (k : Int) < 0) = false := decide_eq_false (by omega)
  clear h hbig
  go_enter Tryz.func120, Tryz.ntmps120
  go_wp2
  go_loopg [1] 1 (fun m v1 wr => (m = 1 ∧ v1 = .int .i64 (-(60 + (k : Int))) ∧ w = wr) ∨ (m = 0 ∧ v1 = .int .i64 (-(k : Int)) ∧ ∃ ds' dp' tr', Dst K w0 g neg N M wr (c + 1) ds' dp' (e + (60 : Nat)) tr' ∧ dp - 20 ≤ dp' ∧ dp' ≤ dp))
  case atStart => exact .inl ⟨rfl, rfl, rfl⟩
  case round =>
    rcases hrel with ⟨rfl, rfl, rfl⟩ | ⟨rfl, rfl, hrel⟩
    · have hk6 : decide (-(60 + (k : Int)) < -60) = true := decide_eq_true (by omega)
      have hs : -(60 + (k : Int)) + 60 = -(k : Int) := by omega
      go_wp2_with (go_at_call 126; ((with_reducible refine (HC.out).mono ?_); rintro r w' ⟨rfl, ds', dp', tr', hp1, hp2, hp3, hp4⟩))
      have HP := Hd.mk (And.intro hp1 (And.intro hp3 hp4))
      clear hp1 hp2 hp3 hp4
      go_wp2
      go_roundg 0
      case measure => omega
      case rel => exact .inr ⟨rfl, by first | rw [hs] | exact congrArg (Value.int .i64) (by omega), ds', dp', tr', HP.out.1, HP.out.2.1, HP.out.2.2⟩
    · obtain ⟨ds', dp', tr', hp1, hp2, hp3⟩ := hrel
      have HC3 := Hd.mk (HC2.out wr ds' dp' tr' hp1 (by omega) (by omega))
      have hk6 : decide (-(k : Int) < -60) = false := decide_eq_false (by omega)
      have hfit : IntKind.u64.wrap (k : Int) = (k : Int) := u64_fit (by omega) (by omega)
      clear hp1
      go_wp2_with (go_at_call 126; ((with_reducible refine (HC3.out).mono ?_); rintro r w' ⟨rfl, ds'', dp'', tr'', q1, q2, q3⟩))
      go_end0
      exact ⟨rfl, ds'', dp'', tr'', q1, by omega, by omega⟩
end Go.Proofs.YtknjgopapbemcaaGreatDoor
