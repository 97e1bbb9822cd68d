/- Dc De Df: joined by merge.py for the claim. -/
import Derived.Test.YtknjgopapbemcaaGreatDoorXDaDb
import Derived.Test.YtknjgopapbemcaaGreatDoorXMgMh
import Derived.Test.YtknjgopapbemcaaGreatDoorXLaLb
/- Walk of internal/strconv's rightShift. -/
namespace Go.Proofs.YtknjgopapbemcaaGreatDoor
open Go.RowKit
set_option linter.unusedVariables false
set_option linter.unusedSimpArgs false
theorem Dgs.upd {f : Nat → Nat} {l : List Nat} (h : Dgs f l) (q : Nat) : Dgs (upd f l.length (48 + q)) (l ++ [q]) := by
  intro i hi
  rw [List.length_append, List.length_singleton] at hi
  unfold Go.Proofs.YtknjgopapbemcaaGreatDoor.upd
  by_cases he : i = l.length
  · rw [if_pos he, he, dg_append, if_neg (by omega), Nat.sub_self]; rfl
  · rw [if_neg he, dg_append, if_pos (by omega)]; exact h i (by omega)
structure R3Inv (f : Nat → Nat) (ds l : List Nat) (i : Nat) : Prop where
  d : Dgs f l
  e : ∀ j, i ≤ j → j < ds.length → f j = 48 + dg ds j
  lt : l.length < i
  le : l.length ≤ 800
theorem R3Inv.next {f : Nat → Nat} {ds l : List Nat} {i q : Nat} (h : R3Inv f ds l i) (hi : i < ds.length) (hl : ds.length ≤ 800) : R3Inv (upd f l.length (48 + q)) ds (l ++ [q]) (i + 1) := by
  refine ⟨h.d.upd q, fun j h1 h2 => ?_, ?_, ?_⟩
  · unfold upd
    rw [if_neg (by have := h.lt; omega)]; exact h.e j (by omega) h2
  · have := h.lt; simp; omega
  · have := h.lt; simp; omega
structure R4Inv (f : Nat → Nat) (ds l : List Nat) (w i : Nat) (tr tr2 : Bool) : Prop where
  d : Dgs f (l.take 800)
  w : w = min 800 l.length
  i : ds.length ≤ i
  t : tr2 = (tr || nz (l.drop 800))
theorem R4Inv.start {f : Nat → Nat} {ds l : List Nat} {i : Nat} {tr : Bool} (h : R3Inv f ds l i) (hi : ds.length ≤ i) : R4Inv f ds l l.length i tr tr := by
  have := h.le
  refine ⟨by rw [List.take_of_length_le this]; exact h.d, by omega, hi, ?_⟩
  rw [List.drop_eq_nil_of_le this]; simp [nz]
theorem R4Inv.next1 {f : Nat → Nat} {ds l : List Nat} {w i q : Nat} {tr tr2 : Bool} (h : R4Inv f ds l w i tr tr2) (hw : w < 800) : R4Inv (upd f w (48 + q)) ds (l ++ [q]) (w + 1) (i + 1) tr tr2 := by
  have hl : w = l.length := by have := h.w; omega
  have hd := h.d
  rw [List.take_of_length_le (by omega)] at hd
  have ht := h.t
  rw [List.drop_eq_nil_of_le (by omega)] at ht
  refine ⟨?_, by simp; omega, by have := h.i; omega, ?_⟩
  · rw [List.take_of_length_le (by simp; omega), hl]; exact hd.upd q
  · rw [List.drop_eq_nil_of_le (by simp; omega)]; exact ht
theorem R4Inv.next2 {f : Nat → Nat} {ds l : List Nat} {w i q : Nat} {tr tr2 : Bool} (h : R4Inv f ds l w i tr tr2) (hw : ¬ w < 800) (hq : 0 < q) : R4Inv f ds (l ++ [q]) w (i + 1) tr true := by
  have hl : 800 ≤ l.length := by have := h.w; omega
  have e : (l ++ [q]).take 800 = l.take 800 := List.take_append_of_le_length hl
  have e2 : (l ++ [q]).drop 800 = l.drop 800 ++ [q] := List.drop_append_of_le_length hl
  refine ⟨by rw [e]; exact h.d, by have := h.w; simp; omega, by have := h.i; omega, ?_⟩
  rw [e2, nz_snoc, show (q != 0) = true by simp; omega, Bool.or_true, Bool.or_true]
theorem R4Inv.next3 {f : Nat → Nat} {ds l : List Nat} {w i q : Nat} {tr tr2 : Bool} (h : R4Inv f ds l w i tr tr2) (hw : ¬ w < 800) (hq : ¬ 0 < q) : R4Inv f ds (l ++ [q]) w (i + 1) tr tr2 := by
  have hl : 800 ≤ l.length := by have := h.w; omega
  have e : (l ++ [q]).take 800 = l.take 800 := List.take_append_of_le_length hl
  have e2 : (l ++ [q]).drop 800 = l.drop 800 ++ [q] := List.drop_append_of_le_length hl
  refine ⟨by rw [e]; exact h.d, by have := h.w; simp; omega, by have := h.i; omega, ?_⟩
  rw [e2, nz_snoc, show (q != 0) = false by simp; omega, Bool.or_false]; exact h.t
theorem dig_take {l : List Nat} (h : ∀ i, dg l i < 10) (n : Nat) : ∀ i, dg (l.take n) i < 10 := by
  intro i
  rcases Nat.lt_or_ge i n with h1 | h1
  · rw [dg_take h1]; exact h i
  · rw [dg_end (by rw [List.length_take]; omega)]; omega
theorem u64_stepx {n x d : Nat} (h : n ≤ 1152921504606846976) (hx : x = 48 + d) (hd : d < 10) :
    IntKind.u64.wrap (IntKind.u64.wrap (IntKind.u64.wrap ((n : Int) * 10) + (x : Int)) - 48) = ((n * 10 + d : Nat) : Int) := by
  rw [u64_fit (n := (n : Int) * 10) (by omega) (by omega), u64_fit (n := (n : Int) * 10 + x) (by omega) (by omega), u64_fit (by omega) (by omega)]; omega
theorem u64_m10 {n P : Nat} (h : n < P) (hP : P ≤ 1152921504606846976) : IntKind.u64.wrap ((n : Int) * 10) = ((n * 10 : Nat) : Int) := by
  rw [u64_fit (by omega) (by omega)]; omega
theorem hf1_end {P : Nat} {ds : List Nat} {N I : Nat} (hP : 0 < P) (hd : ∀ i, dg ds i < 10) (hd0 : 0 < dg ds 0) : ∀ {m n i : Nat}, H1Inv P ds N I m n i → (i = 0 → n / P = 0) → 0 < I ∧ I ≤ i + m ∧ N < 10 * P := by
  intro m
  induction m with
  | zero => intro n i h; exact absurd h.eq (by simp [hf1])
  | succ m ih =>
    intro n i h h0
    by_cases hq : n / P = 0
    · have e := h.eq
      rw [hf1, if_pos hq] at e
      have hd9 := hd i
      have hl := lt_of_q hP hq
      have hz : 0 < n * 10 + dg ds i := by
        rcases h.pos with h1 | h1
        · subst h1; omega
        · omega
      obtain ⟨a, b, c⟩ := ih (i := i + 1) ⟨e, by omega, .inr hz, by have := h.fuel; omega⟩ (by omega)
      exact ⟨a, by omega, c⟩
    · obtain ⟨rfl, rfl⟩ := h.done hq
      exact ⟨by rcases Nat.eq_zero_or_pos i with h1 | h1; exact absurd (h0 h1) hq; exact h1, by omega, h.lt⟩
set_option maxHeartbeats 1000000 in
set_option maxRecDepth 100000 in
theorem rsh_any (g : Nat) (f : Nat → Nat) (ds out : List Nat) (dp : Int) (neg tr : Bool) (k P N I : Nat) (w : World) (hr : Rw w g f (ds.length : Nat) dp neg tr) (hd : Dgs f ds) (hl : ds.length ≤ 800) (hdig : ∀ i, dg ds i < 10)
    (hd0 : 0 < dg ds 0) (hpos : 0 < ds.length) (hk1 : 1 ≤ k) (hk2 : k ≤ 60) (hP : (2 : Int) ^ k = (P : Int)) (hPb : P ≤ 1152921504606846976) (hPp : 0 < P) (hdp : -1000000 ≤ dp ∧ dp ≤ 1000000)
    (h1 : hf1 P ds 60000 0 0 = some (N, I)) (h2 : hf2 P ds 60000 N I [] = some out) (hdo : ∀ i, dg out i < 10) :
    Calls Tryz.prog 126 #[.pointer (some ⟨g, 0, none⟩), .int .u64 (k : Int)] w fun e w' => e = .returned (.tuple #[]) ∧
      Dm w' g (trimD (out.take 800) (out.take 800).length) (trimP (trimD (out.take 800) (out.take 800).length) (dp - ((I : Int) - 1))) neg (tr || nz (out.drop 800)) ∧ Bel g w w' := by
  have H1 : Hd (H1Inv P ds N I 60000 0 0) := ⟨⟨h1, by omega, .inl rfl, by omega⟩⟩
  clear h1
  have H2 := Hd.mk h2
  have HDO := Hd.mk (dig_take hdo 800)
  clear h2 hdo
  have HR := Hd.mk hr
  have HDG := Hd.mk hd
  have hcn := hr.cnd
  have hcp := hr.cdp
  have hf := hr.fz
  have HDIG := Hd.mk hdig
  clear hdig hd hr
  have hk3 : (0 : Int) ≤ (k : Int) := by omega
  have hk4 : (k : Int) ≤ 60 := by omega
  go_enter Tryz.func126, Tryz.ntmps126
  go_upto_block 0 with (fail)
  go_cut [4, 6] from 7 to 48 (fun v4 v6 wc => v4 = .int .i64 I ∧ v6 = .int .u64 N ∧ w = wc)
  case first =>
    go_wp2_with fail
    go_loopg [4, 6] 60000 (fun m v4 v6 w' => ∃ n i : Nat, v4 = .int .i64 i ∧ v6 = .int .u64 n ∧ H1Inv P ds N I m n i ∧ w = w')
    case atStart => exact ⟨0, 0, rfl, rfl, H1.out, rfl⟩
    case round =>
      obtain ⟨n, i, rfl, rfl, HI, rfl⟩ := hrel
      cases gk with
      | zero => exact absurd HI.eq (by simp [hf1])
      | succ m =>
        have hn1 := HI.lt
        have hi1 := HI.fuel
        by_cases hq : n / P = 0
        · have hqb : ((n : Int) / (P : Int) == 0) = true := beq_of_q hq
          by_cases hlen : ds.length ≤ i
          · have hb : decide (ds.length ≤ i) = true := decide_eq_true hlen
            have hz : 0 < n := by rcases HI.pos with h | h <;> omega
            have hzb : ((n : Int) == 0) = false := beq_eq_false_iff_ne.2 (by omega)
            have HQ := Hd.mk (And.intro hq hlen)
            have HI0 := Hd.mk HI
            clear HI
            go_wp2
            clear hq hqb hlen hb hn1 hi1
            go_loopg [4, 6] (m + 1) (fun m2 v4 v6 w' => ∃ n i : Nat, v4 = .int .i64 i ∧ v6 = .int .u64 n ∧ H1Inv P ds N I m2 n i ∧ ds.length ≤ i ∧ 0 < n ∧ w = w')
            case atStart => exact ⟨n, i, rfl, rfl, HI0.out, HQ.out.2, hz, rfl⟩
            case round =>
              clear hz hzb HI0 HQ
              obtain ⟨n, i, rfl, rfl, HI, hlen, hz, rfl⟩ := hrel
              cases gk with
              | zero => exact absurd HI.eq (by simp [hf1])
              | succ m2 =>
                have hn1 := HI.lt
                have hi1 := HI.fuel
                by_cases hq : n / P = 0
                · have hqb : ((n : Int) / (P : Int) == 0) = true := beq_of_q hq
                  go_wp2
                  go_roundg m2
                  case measure => omega
                  case rel => exact ⟨n * 10, i + 1, by go_num, by rw [u64_m10 (lt_of_q hPp hq) hPb], HI.next hPp hq ⟨hlen, hz⟩, by omega, by omega, rfl⟩
                · have hqb : ((n : Int) / (P : Int) == 0) = false := nbeq_of_q hq
                  have hfin := Hd.mk (HI.done hq)
                  go_wp2
                  go_meet
                  exact ⟨by rw [hfin.out.2], by rw [hfin.out.1], rfl⟩
          · have hb : decide (ds.length ≤ i) = false := decide_eq_false hlen
            have hc := HR.out.cell i (by omega)
            have hfx := HDG.out i (by omega)
            have hd9 := HDIG.out i
            obtain ⟨x, hx⟩ : ∃ x, x = f i := ⟨_, rfl⟩
            rw [← hx] at hc hfx
            have HX := Hd.mk hfx
            have hi800 : (i : Int) < 800 := by omega
            have hi0 : (0 : Int) ≤ (i : Int) := by omega
            have hxb : x < 58 ∧ 48 ≤ x := by omega
            clear hx hfx
            go_wp2
            go_roundg m
            case measure => omega
            case rel => exact ⟨n * 10 + dg ds i, i + 1, by go_num, by have := lt_of_q hPp hq; have := HX.out; first | rw [u64_stepx (by omega) this hd9] | go_num, HI.next2 hPp hq rfl hd9 (by rintro rfl; exact hd0), rfl⟩
        · have hqb : ((n : Int) / (P : Int) == 0) = false := nbeq_of_q hq
          have hfin := Hd.mk (HI.done hq)
          go_wp2
          go_meet
          exact ⟨by rw [hfin.out.2], by rw [hfin.out.1], rfl⟩
  case rest =>
    obtain ⟨rfl, rfl, rfl⟩ := hcut
    have HNP := Hd.mk H1.out
    obtain ⟨z, hz⟩ : ∃ z : Int, z = dp - ((I : Int) - 1) := ⟨_, rfl⟩
    obtain ⟨hI0, hI6, hN10⟩ := hf1_end hPp HDIG.out hd0 H1.out (fun _ => Nat.zero_div P)
    have hmask : IntKind.u64.wrap ((P : Int) - 1) = (P : Int) - 1 := u64_fit (by omega) (by omega)
    have hIz : dp - ((I : Int) - 1) = z := hz.symm
    have HZ := Hd.mk hz
    clear hz
    go_wp2
    clear hIz
    have HB0 := Hd.mk ((Bel.refl g w).set 801 (.int .i64 z))
    have HR1 := Hd.mk (HR.out.setP z)
    generalize w.setCell ⟨g, 801, none⟩ (.int .i64 z) = w1 at *
    clear hcn hcp hf
    go_loopg [4, 5, 6] 60000 (fun m v4 v5 v6 wr => ∃ (n i : Nat) (l : List Nat) (f2 : Nat → Nat), v4 = .int .i64 i ∧ v5 = .int .i64 (l.length : Nat) ∧ v6 = .int .u64 n ∧ H2Inv P ds out m n i l ∧ R3Inv f2 ds l i ∧ Rw wr g f2 (ds.length : Nat) z neg tr ∧ Bel g w wr)
    case atStart => exact ⟨N, I, [], f, rfl, rfl, rfl, ⟨H2.out, hN10, by simp; omega⟩, ⟨fun i hi => absurd hi (by simp), fun j h1 h2 => HDG.out j h2, hI0, by simp⟩, HR1.out, HB0.out⟩
    case round =>
      clear HB0 HR1
      obtain ⟨n, i, l, f2, rfl, rfl, rfl, HI, H3, HR, HB⟩ := hrel
      cases gk with
      | zero => exact absurd HI.eq (by simp [hf2])
      | succ m =>
        have hi1 := HI.fuel
        have hn1 := HI.lt
        have hcn := HR.cnd
        have hf := HR.fz
        have HRR := Hd.mk HR
        have HH3 := Hd.mk H3
        by_cases hlt : i < ds.length
        · have hb : decide (i < ds.length) = true := decide_eq_true hlt
          have hc := HR.cell i (by omega)
          have hfx := H3.e i (Nat.le_refl _) hlt
          have hd9 := HDIG.out i
          have hll := H3.lt
          obtain ⟨x, hx⟩ : ∃ x, x = f2 i := ⟨_, rfl⟩
          rw [← hx] at hc hfx
          have HX := Hd.mk hfx
          have hi800 : (i : Int) < 800 := by omega
          have hi0 : (0 : Int) ≤ (i : Int) := by omega
          have hl800 : (l.length : Int) < 800 := by omega
          have hl0 : (0 : Int) ≤ (l.length : Int) := by omega
          have hxb : x < 58 ∧ 48 ≤ x := by omega
          obtain ⟨q, hq⟩ : ∃ q : Nat, q = n / P := ⟨_, rfl⟩
          have hqe : (n : Int) / (P : Int) = (q : Int) := by rw [hq]; rfl
          have hq9 : (q : Int) ≤ 9 := by rw [hq]; exact div9 hPp hn1
          have HQ := Hd.mk hq
          clear hq
          obtain ⟨r, hr⟩ : ∃ r : Nat, r = n % P := ⟨_, rfl⟩
          have hra : bits .and .u64 (n : Int) ((P : Int) - 1) = (r : Int) := by rw [hr]; exact u64_mask n P k (by omega) (by omega) hP
          have hrP : r < P := by rw [hr]; exact Nat.mod_lt _ hPp
          have HRm := Hd.mk hr
          have hcl := HR.cell l.length (by omega)
          clear hr hx hfx HR H3
          go_wp2
          go_roundg m
          case measure => omega
          case rel => exact ⟨r * 10 + dg ds i, i + 1, l ++ [q], upd f2 l.length (48 + q), by go_num, by rw [List.length_append]; go_num, congrArg (Value.int .u64) (by have := HX.out; omega), HI.next2 HRm.out HQ.out hPp hlt hd9, HH3.out.next hlt hl, by rw [show ((q : Int) + 48) = ((48 + q : Nat) : Int) by omega]; exact HRR.out.setD l.length (48 + q) (by omega), HB.set _ _⟩
        · have hb : decide (i < ds.length) = false := decide_eq_false hlt
          clear HR
          go_wp2
          have H4 := Hd.mk (R4Inv.start (tr := tr) HH3.out (by omega))
          have HHI := Hd.mk HI
          have HHB := Hd.mk HB
          clear HI H3 HH3 hi1 hn1 hlt hb hcn hf HB
          go_loopg [5, 6] (m + 1) (fun m2 v5 v6 wr => ∃ (n i wn : Nat) (l : List Nat) (f2 : Nat → Nat) (tr2 : Bool), v5 = .int .i64 wn ∧ v6 = .int .u64 n ∧ H2Inv P ds out m2 n i l ∧ R4Inv f2 ds l wn i tr tr2 ∧ Rw wr g f2 (ds.length : Nat) z neg tr2 ∧ Bel g w wr)
          case atStart => exact ⟨n, i, l.length, l, f2, tr, rfl, rfl, HHI.out, H4.out, HRR.out, HHB.out⟩
          case round =>
            clear HHI H4 HRR HHB
            obtain ⟨n, i, wn, l, f2, tr2, rfl, rfl, HI, H4, HR, HB⟩ := hrel
            cases gk with
            | zero => exact absurd HI.eq (by simp [hf2])
            | succ m2 =>
              have hi1 := HI.fuel
              have hn1 := HI.lt
              have hcn := HR.cnd
              have hct := HR.ctr
              have hf := HR.fz
              have HRR := Hd.mk HR
              have HH4 := Hd.mk H4
              have hid := H4.i
              have hwn := H4.w
              have hz0 := dg_end hid
              by_cases hn0 : 0 < n
              · have hnb : decide ((0 : Int) < (n : Int)) = true := decide_eq_true (by omega)
                obtain ⟨q, hq⟩ : ∃ q : Nat, q = n / P := ⟨_, rfl⟩
                have hqe : (n : Int) / (P : Int) = (q : Int) := by rw [hq]; rfl
                have hq9 : (q : Int) ≤ 9 := by rw [hq]; exact div9 hPp hn1
                have HQ := Hd.mk hq
                clear hq
                obtain ⟨r, hr⟩ : ∃ r : Nat, r = n % P := ⟨_, rfl⟩
                have hra : bits .and .u64 (n : Int) ((P : Int) - 1) = (r : Int) := by rw [hr]; exact u64_mask n P k (by omega) (by omega) hP
                have hrP : r < P := by rw [hr]; exact Nat.mod_lt _ hPp
                have HRm := Hd.mk hr
                have HWN := Hd.mk hwn
                clear hr H4 hwn
                by_cases hw : wn < 800
                · have hwb : decide ((wn : Int) < 800) = true := decide_eq_true (by omega)
                  have hcl := HR.cell wn hw
                  have hw8 : (wn : Int) < 800 := by omega
                  have hw0 : (0 : Int) ≤ (wn : Int) := by omega
                  clear HR
                  go_wp2
                  go_roundg m2
                  case measure => omega
                  case rel => exact ⟨r * 10, i + 1, wn + 1, l ++ [q], upd f2 wn (48 + q), tr2, by go_num, by go_num, HI.next HRm.out HQ.out hPp (.inr hn0) (.inl hid), HH4.out.next1 hw, by rw [show ((q : Int) + 48) = ((48 + q : Nat) : Int) by omega]; exact HRR.out.setD wn (48 + q) hw, HB.set _ _⟩
                · have hwb : decide ((wn : Int) < 800) = false := decide_eq_false (by omega)
                  by_cases hq0 : 0 < q
                  · have hqb : decide ((0 : Int) < (q : Int)) = true := decide_eq_true (by omega)
                    clear HR
                    go_wp2
                    go_roundg m2
                    case measure => omega
                    case rel => exact ⟨r * 10, i + 1, wn, l ++ [q], f2, true, by go_num, by go_num, HI.next HRm.out HQ.out hPp (.inr hn0) (.inl hid), HH4.out.next2 hw hq0, HRR.out.setT true, HB.set _ _⟩
                  · have hqb : decide ((0 : Int) < (q : Int)) = false := decide_eq_false (by omega)
                    clear HR
                    go_wp2
                    go_roundg m2
                    case measure => omega
                    case rel => exact ⟨r * 10, i + 1, wn, l ++ [q], f2, tr2, by go_num, by go_num, HI.next HRm.out HQ.out hPp (.inr hn0) (.inl hid), HH4.out.next3 hw hq0, HRR.out, HB⟩
              · have hnb : decide ((0 : Int) < (n : Int)) = false := decide_eq_false (by omega)
                obtain rfl := HI.done ⟨by omega, hn0⟩
                have hwl : wn = (out.take 800).length := by rw [List.length_take]; exact hwn
                have HN := Hd.mk (HRR.out.setN (wn : Int))
                have HBB := Hd.mk (HB.set 800 (.int .i64 (wn : Int)))
                have HTT := Hd.mk H4.t
                have HDD := Hd.mk H4.d
                have HWL := Hd.mk hwl
                clear HR hwl hwn H4
                go_wp2_with (go_at_call 133; ((with_reducible refine (strim_any g f2 (out.take 800) z neg tr2 _ (by rw [← HWL.out]; exact HN.out) HDD.out (by rw [List.length_take]; omega) HDO.out).mono ?_); rintro e w4 ⟨rfl, hd4, hb4⟩))
                go_end0
                refine ⟨rfl, ?_, HBB.out.trans hb4⟩
                rw [← HZ.out, ← HTT.out]
                exact hd4
end Go.Proofs.YtknjgopapbemcaaGreatDoor
/- Walk of internal/strconv's prefixIsLessThan. -/
namespace Go.Proofs.YtknjgopapbemcaaGreatDoor
open Go.RowKit
set_option linter.unusedVariables false
set_option linter.unusedSimpArgs false
/-- The order of two rows, read as far as the second goes. -/
def plt : List Nat → List Nat → Bool
  | _, [] => false
  | [], _ :: _ => true
  | d :: ds, c :: cs => if d = c then plt ds cs else decide (d < c)
theorem plt_nil (l : List Nat) : plt l [] = false := by cases l <;> rfl
theorem plt_end {l : List Nat} (h : 0 < l.length) : plt [] l = true := by
  cases l with
  | nil => simp at h
  | cons a l => rfl
set_option maxHeartbeats 1000000 in
theorem prefix_any (g c : Nat) (bl : List Nat) (s : ByteArray) (w : World) (hb : bl.length ≤ 800) (hs : s.size ≤ 1000) (h256 : ∀ i, bt bl i < 256) (hcell : ∀ i, i < bl.length → w.cell? ⟨g, i, none⟩ = some (.int .u8 (bt bl i : Nat))) :
    Calls Tryz.prog 132 #[.slice (some ⟨g, 0, none⟩) bl.length c, .string s] w fun e w' => e = .returned (.bool (plt bl (tx s))) ∧ ∃ q, w' = w.drewN q := by
  obtain ⟨R, hR⟩ : ∃ R, R = plt bl (tx s) := ⟨_, rfl⟩
  rw [← hR]
  have HC := Hd.mk hcell
  have H0 : Hd (R = plt (bl.drop 0) ((tx s).drop 0)) := ⟨by rw [List.drop_zero, List.drop_zero]; exact hR⟩
  clear hR hcell
  go_enter Tryz.func132, Tryz.ntmps132
  go_wp2
  go_loopg [4, 5] s.size (fun m v4 v5 wr => ∃ i q : Nat, v4 = .bool false ∧ v5 = .int .i64 (i : Int) ∧ i + m = s.size ∧ Hd (R = plt (bl.drop i) ((tx s).drop i)) ∧ wr = w.drewN q)
  case atStart => exact ⟨0, 0, rfl, rfl, by omega, H0, rfl⟩
  case round =>
    clear H0
    obtain ⟨i, q, rfl, rfl, hm, HE, rfl⟩ := hrel
    by_cases hlt : i < s.size
    · obtain ⟨m, rfl⟩ : ∃ m, gk = m + 1 := ⟨gk - 1, by omega⟩
      have hltb : decide (i < s.size) = true := decide_eq_true hlt
      have hx := bt_get s i hlt
      have hD : (tx s).drop i = s[i].toNat :: (tx s).drop (i + 1) := by rw [hx]; exact drop_bt (by rw [tx_length]; exact hlt)
      by_cases hge : bl.length ≤ i
      · have hgb : decide (bl.length ≤ i) = true := decide_eq_true hge
        have HR : Hd (R = true) := ⟨by rw [HE.out, hD, List.drop_eq_nil_of_le hge]; rfl⟩
        clear hD hx HE
        go_wp2
        go_ret
        exact ⟨ret_b HR.out.symm, _, rfl⟩
      · have hgb : decide (bl.length ≤ i) = false := decide_eq_false hge
        have hD2 : bl.drop i = bt bl i :: bl.drop (i + 1) := drop_bt (by omega)
        have hc : w.cell? ⟨g, i, none⟩ = some (.int .u8 (bt bl i : Nat)) := HC.out i (by omega)
        have hib : i < bl.length := by omega
        have h2 := h256 i
        have h3 := UInt8.toNat_lt s[i]
        rw [hD, hD2] at HE
        clear hD hD2 hx
        obtain ⟨x, hx⟩ : ∃ x, x = bt bl i := ⟨_, rfl⟩
        rw [← hx] at hc HE h2
        obtain ⟨y, hy⟩ : ∃ y, y = s[i].toNat := ⟨_, rfl⟩
        have hyc : s[i].toNat = y := hy.symm
        rw [hyc] at HE h3
        clear hx
        have HY := Hd.mk hyc
        by_cases he : x = y
        · have hne : ((x : Int) != (s[i].toNat : Int)) = false := by rw [hyc]; simp; omega
          have HE2 : Hd (R = plt (bl.drop (i + 1)) ((tx s).drop (i + 1))) := ⟨by rw [HE.out, plt, if_pos he]⟩
          clear HE he hyc hy
          go_wp2_with fail
          go_quiet (fail)
          go_wp2
          go_roundg m
          case measure => omega
          case rel => exact ⟨i + 1, q + nq, rfl, by go_num, by omega, HE2, rfl⟩
        · have hne : ((x : Int) != (s[i].toNat : Int)) = true := by rw [hyc]; simp; omega
          have HE2 : Hd (R = decide (x < y)) := ⟨by rw [HE.out, plt, if_neg he]⟩
          clear HE he hyc hy
          go_wp2_with fail
          go_quiet (fail)
          go_wp2_with fail
          go_quiet (fail)
          go_wp2
          go_ret
          rename_i nq2 _
          refine ⟨ret_b ?_, _, by rw [World.drewN_drewN, World.drewN_drewN]⟩
          rw [HE2.out, ← HY.out]
    · have hltb : decide (i < s.size) = false := decide_eq_false hlt
      have HR : Hd (R = false) := ⟨by rw [HE.out, show (tx s).drop i = [] from List.drop_eq_nil_of_le (by rw [tx_length]; omega), plt_nil]⟩
      clear HE
      go_wp2
      go_ret
      exact ⟨ret_b HR.out.symm, _, rfl⟩
end Go.Proofs.YtknjgopapbemcaaGreatDoor
/- How many digits a doubled number has: the table of leftShift. Plain. -/
namespace Go.Proofs.YtknjgopapbemcaaGreatDoor
set_option linter.unusedVariables false
set_option linter.unusedSimpArgs false
theorem dn_cons (d : Nat) (l : List Nat) : dn (d :: l) = d * 10 ^ l.length + dn l := by
  have e := dn_append [d] l
  rw [List.singleton_append] at e
  rw [e]; simp [dn]
theorem dn_lt {l : List Nat} (h : ∀ i, dg l i < 10) : dn l < 10 ^ l.length := by
  have := dn_drop_lt h l.length 0 (by omega)
  rwa [List.drop_zero] at this
theorem dig_tail {d : Nat} {l : List Nat} (h : ∀ i, dg (d :: l) i < 10) : ∀ i, dg l i < 10 := fun i => by have := h (i + 1); simpa [dg] using this
theorem plt_law (cs : List Nat) : ∀ ds : List Nat, (∀ i, dg ds i < 10) → (∀ i, dg cs i < 10) → (cs ≠ [] → 0 < dg cs (cs.length - 1)) → plt ds cs = decide (dn ds * 10 ^ cs.length < dn cs * 10 ^ ds.length) := by
  induction cs with
  | nil => intro ds h1 h2 h3; rw [plt_nil]; simp [dn]
  | cons c cs ih =>
    intro ds h1 h2 h3
    cases ds with
    | nil =>
      have hp : 0 < dn (c :: cs) := by
        have := dn_drop_pos (ds := c :: cs) (h3 (by simp)) (j := 0) (by simp)
        rwa [List.drop_zero] at this
      rw [plt]
      simp [dn_nil]
      exact hp
    | cons d ds =>
      have h1' := dig_tail h1
      have h2' := dig_tail h2
      have hn := dn_lt h1'
      have hm := dn_lt h2'
      have ih' := ih ds h1' h2' (by
        intro hne
        have := h3 (by simp)
        rw [List.length_cons, Nat.add_sub_cancel] at this
        cases cs with
        | nil => exact absurd rfl hne
        | cons c2 cs => simpa [dg] using this)
      rw [plt, dn_cons, dn_cons, List.length_cons, List.length_cons, Nat.pow_succ, Nat.pow_succ]
      generalize 10 ^ ds.length = X at *
      generalize 10 ^ cs.length = Y at *
      generalize dn ds = n at *
      generalize dn cs = m at *
      have e1 : (d * X + n) * (Y * 10) = 10 * (d * (X * Y) + n * Y) := by
        rw [show (d * X + n) * (Y * 10) = 10 * ((d * X + n) * Y) by rw [← Nat.mul_assoc, Nat.mul_comm]]
        rw [Nat.add_mul, Nat.mul_assoc]
      have e2 : (c * Y + m) * (X * 10) = 10 * (c * (X * Y) + m * X) := by
        rw [show (c * Y + m) * (X * 10) = 10 * ((c * Y + m) * X) by rw [← Nat.mul_assoc, Nat.mul_comm]]
        rw [Nat.add_mul, Nat.mul_assoc, Nat.mul_comm Y X]
      rw [e1, e2]
      have hnY : n * Y + Y ≤ X * Y := by
        have : (n + 1) * Y ≤ X * Y := Nat.mul_le_mul_right _ (by omega)
        rwa [Nat.add_mul, Nat.one_mul] at this
      have hmX : m * X + X ≤ X * Y := by
        have : (m + 1) * X ≤ Y * X := Nat.mul_le_mul_right _ (by omega)
        rw [Nat.add_mul, Nat.one_mul, Nat.mul_comm Y X] at this
        exact this
      by_cases he : d = c
      · rw [if_pos he, ih', he]
        apply decide_eq_decide.2
        generalize c * (X * Y) = Z
        omega
      · rw [if_neg he]
        apply decide_eq_decide.2
        constructor
        · intro hlt
          have : (d + 1) * (X * Y) ≤ c * (X * Y) := Nat.mul_le_mul_right _ hlt
          rw [Nat.add_mul, Nat.one_mul] at this
          omega
        · intro hlt
          rcases Nat.lt_or_ge d c with h | h
          · exact h
          · have : (c + 1) * (X * Y) ≤ d * (X * Y) := Nat.mul_le_mul_right _ (by omega)
            rw [Nat.add_mul, Nat.one_mul] at this
            omega
theorem plt_map (cs : List Nat) : ∀ ds : List Nat, plt (ds.map (48 + ·)) (cs.map (48 + ·)) = plt ds cs := by
  induction cs with
  | nil => intro ds; rw [List.map_nil, plt_nil, plt_nil]
  | cons c cs ih =>
    intro ds
    cases ds with
    | nil => rfl
    | cons d ds =>
      rw [List.map_cons, List.map_cons, plt, plt, ih]
      by_cases he : d = c
      · rw [if_pos he, if_pos (by rw [he])]
      · rw [if_neg he, if_neg (by omega)]
        apply decide_eq_decide.2; omega
/-- The number of digits. -/
theorem len_law {n nd C P L k dl W : Nat} (hC : C * P = 10 ^ k) (h1 : 10 ^ (L - 1) ≤ C) (h2 : C < 10 ^ L) (hL0 : 0 < L) (hL : L ≤ k) (hdl : dl + L = k + 1) (hn1 : 10 ^ (nd - 1) ≤ n) (hn2 : n < 10 ^ nd) (hnd : 0 < nd) (hP : 0 < P)
    (hW : 0 < W) (hw1 : 10 ^ (W - 1) ≤ n * P) (hw2 : n * P < 10 ^ W) : W + (if n * 10 ^ L < C * 10 ^ nd then 1 else 0) = nd + dl := by
  have inj : ∀ a b : Nat, 10 ^ a < 10 ^ b → a < b := fun a b h => (Nat.pow_lt_pow_iff_right (by omega : 1 < 10)).1 h
  have hk : ∀ x, 0 < 10 ^ x := fun x => Nat.pow_pos (by omega)
  by_cases hc : n * 10 ^ L < C * 10 ^ nd
  · rw [if_pos hc]
    -- above
    have a1 : n * P * 10 ^ L < 10 ^ (k + nd) := by
      have : n * 10 ^ L * P < C * 10 ^ nd * P := Nat.mul_lt_mul_of_pos_right hc hP
      rw [Nat.mul_right_comm C, hC, ← Nat.pow_add, Nat.mul_right_comm] at this
      exact this
    have a2 : 10 ^ (W - 1 + L) < 10 ^ (k + nd) := by
      rw [Nat.pow_add]
      exact Nat.lt_of_le_of_lt (Nat.mul_le_mul_right _ hw1) a1
    have a3 := inj _ _ a2
    -- below
    have b1 : 10 ^ k < P * 10 ^ L := by
      rw [← hC, Nat.mul_comm P]; exact Nat.mul_lt_mul_of_pos_right h2 hP
    have b2 : 10 ^ (nd - 1 + k) < 10 ^ (W + L) := by
      rw [Nat.pow_add, Nat.pow_add]
      have c1 : 10 ^ (nd - 1) * 10 ^ k ≤ n * (P * 10 ^ L) := Nat.mul_le_mul hn1 (Nat.le_of_lt b1)
      have c2 : n * P * 10 ^ L < 10 ^ W * 10 ^ L := Nat.mul_lt_mul_of_pos_right hw2 (hk L)
      rw [← Nat.mul_assoc] at c1
      omega
    have b3 := inj _ _ b2
    omega
  · rw [if_neg hc]
    have a1 : 10 ^ (k + nd) ≤ n * P * 10 ^ L := by
      have : C * 10 ^ nd * P ≤ n * 10 ^ L * P := Nat.mul_le_mul_right _ (by omega)
      rw [Nat.mul_right_comm C, hC, ← Nat.pow_add, Nat.mul_right_comm n] at this
      exact this
    have a2 : 10 ^ (k + nd) < 10 ^ (W + L) := by
      rw [Nat.pow_add 10 W]
      exact Nat.lt_of_le_of_lt a1 (Nat.mul_lt_mul_of_pos_right hw2 (hk L))
    have a3 := inj _ _ a2
    have b1 : P * 10 ^ (L - 1) ≤ 10 ^ k := by
      rw [← hC, Nat.mul_comm P]; exact Nat.mul_le_mul_right _ h1
    have b2 : 10 ^ (W - 1 + (L - 1)) < 10 ^ (nd + k) := by
      rw [Nat.pow_add, Nat.pow_add]
      have c1 : 10 ^ (W - 1) * 10 ^ (L - 1) ≤ n * P * 10 ^ (L - 1) := Nat.mul_le_mul_right _ hw1
      have c2 : n * (P * 10 ^ (L - 1)) ≤ n * 10 ^ k := Nat.mul_le_mul_left _ b1
      have c3 : n * 10 ^ k < 10 ^ nd * 10 ^ k := Nat.mul_lt_mul_of_pos_right hn2 (hk k)
      rw [← Nat.mul_assoc] at c2
      omega
    have b3 := inj _ _ b2
    omega
/-- Row k of the table: how many digits more; the digits of 5^k. -/
def chD (k : Nat) : Nat := ((Go.Pinned.cheatRows[k]?).getD (0, [])).1
def chS (k : Nat) : List Nat := ((Go.Pinned.cheatRows[k]?).getD (0, [])).2.map (fun b => b.toNat - 48)
theorem cheats_len : Go.Pinned.cheatRows.length = 61 := by decide +kernel
def chk1 (k : Nat) : Bool :=
  let r := (Go.Pinned.cheatRows[k]?).getD (0, [])
  let cs : List Nat := r.2.map (fun b => b.toNat - 48)
  (dn cs == 5 ^ k) && (r.1 + cs.length == k + 1) && decide (0 < cs.length) && decide (cs.length ≤ k) && cs.all (fun d => decide (d < 10)) && decide (0 < dg cs (cs.length - 1)) && decide ((10:Nat) ^ (cs.length - 1) ≤ (5:Nat) ^ k) && decide ((5:Nat) ^ k < (10:Nat) ^ cs.length) && (r.2.map (fun b => b.toNat) == cs.map (48 + ·)) && decide (r.1 ≤ 20)
theorem chk_all : (List.range 61).all (fun k => k == 0 || chk1 k) = true := by decide +kernel
structure Cht (k : Nat) : Prop where
  n : dn (chS k) = 5 ^ k
  l : chD k + (chS k).length = k + 1
  p : 0 < (chS k).length
  lk : (chS k).length ≤ k
  d : ∀ i, dg (chS k) i < 10
  last : 0 < dg (chS k) ((chS k).length - 1)
  lo : 10 ^ ((chS k).length - 1) ≤ 5 ^ k
  hi : 5 ^ k < 10 ^ (chS k).length
  t : ((Go.Pinned.cheatRows[k]?).getD (0, [])).2.map (fun b => b.toNat) = (chS k).map (48 + ·)
  d20 : chD k ≤ 20
theorem cht {k : Nat} (h1 : 1 ≤ k) (h2 : k ≤ 60) : Cht k := by
  have h := List.all_eq_true.1 chk_all k (List.mem_range.2 (by omega))
  have hk : (k == 0) = false := by simp; omega
  rw [hk, Bool.false_or] at h
  unfold chk1 at h
  simp only [Bool.and_eq_true, decide_eq_true_eq, beq_iff_eq] at h
  obtain ⟨⟨⟨⟨⟨⟨⟨⟨⟨a, b⟩, c⟩, d⟩, e⟩, f⟩, g⟩, i⟩, j⟩, m⟩ := h
  refine ⟨a, b, c, d, fun q => ?_, f, g, i, j, m⟩
  rcases Nat.lt_or_ge q (chS k).length with hq | hq
  · rw [dg_lt hq]
    have := List.all_eq_true.1 e _ (List.getElem_mem hq)
    simpa using this
  · rw [dg_end hq]; omega
/-- How long the doubled number is. -/
theorem dbl_len {L k : Nat} {ds : List Nat} (h : Vd L ds) (hL : L ≤ 40000) (hk1 : 1 ≤ k) (hk2 : k ≤ 60) :
    (dblO k ds).length + (plt ds (chS k)).toNat = ds.length + chD k := by
  have c := cht hk1 hk2
  obtain ⟨h1, h2, h3, h4, h5, h6, h7, h8⟩ := dbl_specX h hL hk2
  have e : dn (dblO k ds).reverse = dn ds * 2 ^ k := by
    obtain ⟨out, g1, g2, g3, g4, g5, g6⟩ := db1_specX k hk2 ds h.dig h.first ds.length (ds.length + 20) 0 [] (Nat.le_refl _) (fun e => absurd e (by have := h.pos; omega)) (by intro i; simp [dg]) (by simp) (Nat.two_pow_pos k) (by simp [rn, dn]) (by omega)
    have := db1_mono _ _ _ _ _ _ _ g1 60000 (by have := h.le; omega)
    rw [this] at h1
    have ee : dblO k ds = out := by simpa using h1.symm
    rw [dn_reverse, ee, g2]
  have hlo := dn_lo h3
  have hhi := dn_hi h3
  rw [List.length_reverse, e] at hlo hhi
  have hp : 5 ^ k * 2 ^ k = 10 ^ k := by rw [← Nat.mul_pow]
  have := len_law hp c.lo c.hi c.p c.lk c.l (dn_lo h) (dn_hi h) h.pos (Nat.two_pow_pos k) h2 hlo hhi
  rw [plt_law (chS k) ds h.dig c.d (fun _ => c.last), c.n, ← this]
  congr 1
  by_cases hc : dn ds * 10 ^ (chS k).length < 5 ^ k * 10 ^ ds.length
  · rw [if_pos hc, decide_eq_true hc]; rfl
  · rw [if_neg hc, decide_eq_false hc]; rfl
end Go.Proofs.YtknjgopapbemcaaGreatDoor
