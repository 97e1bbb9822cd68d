/- Dh: joined by merge.py for the claim. -/
import Derived.Test.YtknjgopapbemcaaGreatDoorXDcDf
import Derived.Test.YtknjgopapbemcaaGreatDoorXLcLe
/- Walk of internal/strconv's leftShift. -/
namespace Go.Proofs.YtknjgopapbemcaaGreatDoor
open Go.RowKit
set_option linter.unusedVariables false
set_option linter.unusedSimpArgs false
theorem al171 : Tryz.prog.arrayLen 171 = 800 := by kernel_rfl
theorem el171 : Tryz.prog.elem 171 = 5 := by kernel_rfl
theorem un171 : Tryz.prog.underlying 171 = some (.array 800 5) := by kernel_rfl
theorem sl171 (w : World) (g n : Nat) (hn : n ≤ 800) : (Instr.sliceAt 171 (.pointer (some ⟨g, 0, none⟩)) (some (.int .i64 0)) (some (.int .i64 (n : Int))) none).run Tryz.prog w = .ok (.slice (some ⟨g, 0, none⟩) n 800) w := by
  have h := run_sliceAt_array_lh (P := Tryz.prog) w 171 ⟨g, 0, none⟩ (by rw [al171, el171]; exact un171) .i64 .i64 0 (n : Int) (by omega) (by omega) (by rw [al171]; omega)
  obtain ⟨i, hi, _⟩ := info_parts A5
  rw [h, al171, el171, run_sizeOf w hi, show Tryz.prog.cellsOf 5 = 1 by kernel_rfl]
  have e : ((0 : Int)).toNat = 0 := rfl
  simp only [Result.andThen, slicedAt, e, Nat.mul_one, Int.toNat_natCast]
  unfold Addr.add
  simp
structure LsInv (f : Nat → Nat) (ds l : List Nat) (W : Nat) (tr tr2 : Bool) : Prop where
  d : ∀ j, j < l.length → W - 1 - j < 800 → f (W - 1 - j) = 48 + dg l j
  e : ∀ i, i < ds.length - l.length → f i = 48 + dg ds i
  t : tr2 = (tr || nz (l.take (W - 800)))
theorem LsInv.next1 {f : Nat → Nat} {ds l : List Nat} {W q : Nat} {tr tr2 : Bool} (h : LsInv f ds l W tr tr2) (hl : l.length < W) (hw : W - 1 - l.length < 800) (hW : ds.length ≤ W) : LsInv (upd f (W - 1 - l.length) (48 + q)) ds (l ++ [q]) W tr tr2 := by
  refine ⟨fun j h1 h2 => ?_, fun i hi => ?_, ?_⟩
  · rw [List.length_append, List.length_singleton] at h1
    unfold upd
    by_cases he : j = l.length
    · rw [if_pos (by omega), he, dg_append, if_neg (by omega), Nat.sub_self]; rfl
    · rw [if_neg (by omega), dg_append, if_pos (by omega)]; exact h.d j (by omega) h2
  · rw [List.length_append, List.length_singleton] at hi
    unfold upd
    rw [if_neg (by omega)]; exact h.e i (by omega)
  · rw [List.take_append_of_le_length (by omega)]; exact h.t
theorem LsInv.next2 {f : Nat → Nat} {ds l : List Nat} {W q : Nat} {tr tr2 : Bool} (h : LsInv f ds l W tr tr2) (hl : l.length < W) (hw : ¬ W - 1 - l.length < 800) (hq : q ≠ 0) : LsInv f ds (l ++ [q]) W tr true := by
  refine ⟨fun j h1 h2 => ?_, fun i hi => ?_, ?_⟩
  · rw [List.length_append, List.length_singleton] at h1; omega
  · rw [List.length_append, List.length_singleton] at hi; exact h.e i (by omega)
  · rw [List.take_of_length_le (by simp; omega), nz_snoc, show (q != 0) = true by simpa using hq, Bool.or_true, Bool.or_true]
theorem LsInv.next3 {f : Nat → Nat} {ds l : List Nat} {W q : Nat} {tr tr2 : Bool} (h : LsInv f ds l W tr tr2) (hl : l.length < W) (hw : ¬ W - 1 - l.length < 800) (hq : ¬ q ≠ 0) : LsInv f ds (l ++ [q]) W tr tr2 := by
  have ht := h.t
  rw [List.take_of_length_le (by omega)] at ht
  refine ⟨fun j h1 h2 => ?_, fun i hi => ?_, ?_⟩
  · rw [List.length_append, List.length_singleton] at h1; omega
  · rw [List.length_append, List.length_singleton] at hi; exact h.e i (by omega)
  · rw [List.take_of_length_le (by simp; omega), nz_snoc, show (q != 0) = false by simpa using hq, Bool.or_false]; exact ht
theorem nz_reverse (l : List Nat) : nz l.reverse = nz l := by unfold nz; rw [List.any_reverse]
theorem LsInv.done {f : Nat → Nat} {ds l : List Nat} {tr tr2 : Bool} (h : LsInv f ds l l.length tr tr2) : Dgs f (l.reverse.take 800) ∧ tr2 = (tr || nz (l.reverse.drop 800)) := by
  constructor
  · intro i hi
    rw [List.length_take, List.length_reverse] at hi
    have := h.d (l.length - 1 - i) (by omega) (by omega)
    rw [dg_take (by omega), dg_reverse (by omega), ← this]
    congr 1; omega
  · rw [h.t, List.drop_reverse, nz_reverse]
theorem db1_len (P : Nat) (ds : List Nat) : ∀ (m n : Nat) (i : Int) (l out : List Nat), db1 P ds m n i l = some out → l.length + (if 0 ≤ i then i + 1 else if 0 < n then 1 else 0) ≤ (out.length : Int) := by
  intro m
  induction m with
  | zero => intro n i l out h; simp [db1] at h
  | succ m ih =>
    intro n i l out h
    rw [db1] at h
    split at h
    · rename_i hi
      have := ih _ _ _ _ h
      rw [List.length_append, List.length_singleton] at this
      rw [if_pos hi]
      split at this <;> (try split at this) <;> omega
    · rename_i hi
      rw [if_neg hi]
      split at h
      · rename_i hn
        have := ih _ _ _ _ h
        rw [List.length_append, List.length_singleton] at this
        rw [if_pos hn]
        split at this <;> (try split at this) <;> omega
      · rename_i hn
        rw [if_neg hn]
        have : l = out := by simpa using h
        rw [this]; omega
theorem prefix_ds {g c n : Nat} {f : Nat → Nat} {ds cs : List Nat} {dp : Int} {neg tr : Bool} {s : ByteArray} {w : World} (hr : Rw w g f (ds.length : Nat) dp neg tr) (hd : Dgs f ds) (hl : ds.length ≤ 800) (hdig : ∀ i, dg ds i < 10) (hs : s.size ≤ 61)
    (htx : tx s = cs.map (48 + ·)) : Calls Tryz.prog 132 #[.slice (some ⟨g, 0, none⟩) ds.length c, .string s] (w.drewN n) fun e w' => e = .returned (.bool (plt ds cs)) ∧ ∃ q, w' = w.drewN q := by
  have hbt : ∀ i, i < ds.length → bt (ds.map (48 + ·)) i = 48 + dg ds i := by
    intro i hi
    unfold bt
    rw [List.getD_eq_getElem?_getD, List.getElem?_map, List.getElem?_eq_getElem hi, dg_lt hi]; rfl
  have := prefix_any g c (ds.map (48 + ·)) s (w.drewN n) (by rw [List.length_map]; exact hl) (by omega) (fun i => by
    rcases Nat.lt_or_ge i ds.length with h | h
    · rw [hbt i h]; have := hdig i; omega
    · unfold bt; rw [List.getD_eq_getElem?_getD, List.getElem?_eq_none (by rw [List.length_map]; exact h)]; simp) (fun i hi => by
    rw [List.length_map] at hi
    rw [hbt i hi, cell_drewN, hr.cell i (by omega), hd i hi])
  rw [List.length_map, htx, plt_map] at this
  refine this.mono ?_
  rintro e w' ⟨h1, q, h2⟩
  exact ⟨h1, n + q, by rw [h2, World.drewN_drewN]⟩
set_option maxHeartbeats 1000000 in
set_option maxRecDepth 100000 in
theorem lsh_any (g : Nat) (f : Nat → Nat) (ds out : List Nat) (dp : Int) (neg tr : Bool) (k P dl : Nat) (w : World) (hG : Gl w) (hr : Rw w g f (ds.length : Nat) dp neg tr) (hd : Dgs f ds) (hl : ds.length ≤ 800) (hdig : ∀ i, dg ds i < 10)
    (hpos : 0 < ds.length) (hk1 : 1 ≤ k) (hk2 : k ≤ 60) (hP : (2 : Int) ^ k = (P : Int)) (hPb : P ≤ 1152921504606846976) (hPp : 0 < P) (hdp : -1000000 ≤ dp ∧ dp ≤ 1000000)
    (h1 : db1 P ds 60000 0 ((ds.length : Int) - 1) [] = some out) (hdo : ∀ i, dg out i < 10) (hdl : out.length = ds.length + dl) (hpl : dl + (plt ds (chS k)).toNat = chD k) :
    Calls Tryz.prog 125 #[.pointer (some ⟨g, 0, none⟩), .int .u64 (k : Int)] w fun e w' => e = .returned (.tuple #[]) ∧
      Dm w' g (trimD (out.reverse.take 800) (out.reverse.take 800).length) (trimP (trimD (out.reverse.take 800) (out.reverse.take 800).length) (dp + dl)) neg (tr || nz (out.reverse.drop 800)) ∧ Bel g w w' := by
  have hC := cht hk1 hk2
  obtain ⟨Q, o, c, hQw, h16, hc61, hQ⟩ := hG.chts
  have hk61 : k < Go.Pinned.cheatRows.length := by rw [cheats_len]; omega
  obtain ⟨hq0, hq1⟩ := hQ k hk61
  have hrow : (Go.Pinned.cheatRows[k]?).getD (0, []) = Go.Pinned.cheatRows[k] := by rw [List.getElem?_eq_getElem hk61]; rfl
  have hcD : (Go.Pinned.cheatRows[k]).1 = chD k := by unfold chD; rw [hrow]
  obtain ⟨s, hs⟩ : ∃ s : ByteArray, s = ⟨(Go.Pinned.cheatRows[k]).2.toArray⟩ := ⟨_, rfl⟩
  have htx : tx s = (chS k).map (48 + ·) := by
    rw [hs]; unfold tx
    have := hC.t
    rw [hrow] at this
    exact this
  rw [hcD] at hq0
  rw [← hs] at hq1
  have HR := Hd.mk hr
  have HDG := Hd.mk hd
  have HDIG := Hd.mk hdig
  have HQ0 := Hd.mk hq0
  have HQ1 := Hd.mk hq1
  have HTX := Hd.mk htx
  have HPL := Hd.mk hpl
  have hd20 := hC.d20
  have hssz : s.size ≤ 61 := by
    have e1 : s.size = (tx s).length := (tx_length s).symm
    rw [e1, htx, List.length_map]
    have := hC.lk; omega
  have HSZ := Hd.mk hssz
  have hcn := hr.cnd
  have hcp := hr.cdp
  have hf := hr.fz
  have hsl := fun w => sl171 w g ds.length hl
  have hk6 : k < 61 := by omega
  clear hQ hrow hcD hs htx hC hG hr hd hdig hpl hssz
  go_enter Tryz.func125, Tryz.ntmps125
  have hpf := fun n => prefix_ds (n := n) (c := 800) HR.out HDG.out hl HDIG.out HSZ.out HTX.out
  obtain ⟨b, hb⟩ : ∃ b, b = plt ds (chS k) := ⟨_, rfl⟩
  rw [← hb] at hpf
  have hcd : Hd (chD k = dl + b.toNat) := ⟨by have := HPL.out; rw [← hb] at this; exact this.symm⟩
  clear hb
  go_wp2_with fail
  go_quiet ((go_at_call 132; exact hpf _))
  go_upto_if 30 with (fail)
  go_cut [4] from 17 to 32 (fun v4 wc => v4 = .int .i64 (dl : Int) ∧ w.drewN nq = wc)
  case first =>
    clear hpf
    cases b
    case true =>
      have hc1 : chD k = dl + 1 := hcd.out
      have hsub : ((chD k : Nat) : Int) - 1 = (dl : Int) := by omega
      have HC1 := Hd.mk hc1
      clear hc1
      go_wp2
      go_meet
      exact ⟨rfl, rfl⟩
    case false =>
      have HC1 : Hd (chD k = dl) := ⟨hcd.out⟩
      go_wp2
      go_meet
      exact ⟨by rw [HC1.out], rfl⟩
  case rest =>
    obtain ⟨rfl, rfl⟩ := hcut
    clear hpf
    have hdl20 : dl ≤ 20 := by have := HPL.out; omega
    have HR1 := Hd.mk (HR.out.drewN nq)
    have HB1 := Hd.mk (Bel.drewN (Bel.refl g w) nq)
    clear h16 hq0 hq1 hsl HQ0 HQ1
    go_wp2
    have HI : Hd (D1Inv P ds out 60000 0 ((ds.length : Int) - 1) []) := ⟨⟨h1, by omega, by simp; omega, by omega⟩⟩
    have hoW : ∀ (m n : Nat) (i : Int) (l : List Nat), D1Inv P ds out m n i l → l.length + (if 0 ≤ i then i + 1 else if 0 < n then 1 else 0) ≤ ((ds.length + dl : Nat) : Int) := by
      intro m n i l h
      have := db1_len P ds m n i l out h.eq
      rwa [hdl] at this
    have HOW := Hd.mk hoW
    generalize w.drewN nq = w1 at *
    clear h1 hoW hcn hcp hf
    go_loopg [5, 6, 7] ds.length (fun m v5 v6 v7 wr => ∃ (n : Nat) (l : List Nat) (f2 : Nat → Nat) (tr2 : Bool), v5 = .int .i64 ((m : Int) - 1) ∧ v6 = .int .i64 ((ds.length : Int) + dl - l.length) ∧ v7 = .int .u64 n ∧ l.length + m = ds.length ∧
      D1Inv P ds out (60000 - l.length) n ((m : Int) - 1) l ∧ LsInv f2 ds l (ds.length + dl) tr tr2 ∧ Rw wr g f2 (ds.length : Nat) dp neg tr2 ∧ Bel g w wr)
    case atStart => exact ⟨0, [], f, tr, rfl, by simp, rfl, by simp, HI.out, ⟨fun j hj => absurd hj (by simp), fun i hi => HDG.out i (by simpa using hi), by simp [nz]⟩, HR1.out, HB1.out⟩
    case round =>
      clear HI HR1 HB1
      obtain ⟨n, l, f2, tr2, rfl, rfl, rfl, hlm, HI, HL, HR, HB⟩ := hrel
      have hi1 := HI.fuel
      have hn1 := HI.lt
      have how := HOW.out _ _ _ _ HI
      have hcn := HR.cnd
      have hcp := HR.cdp
      have hct := HR.ctr
      have hf := HR.fz
      have HRR := Hd.mk HR
      have HLL := Hd.mk HL
      obtain ⟨M, hM⟩ : ∃ M, 60000 - l.length = M + 1 := ⟨60000 - l.length - 1, by omega⟩
      rw [hM] at HI
      cases gk with
      | succ m =>
        have hge : decide ((0 : Int) ≤ ((m + 1 : Nat) : Int) - 1) = true := decide_eq_true (by omega)
        have hsub : ((m + 1 : Nat) : Int) - 1 = (m : Int) := by omega
        rw [hsub] at HI how
        have hml : m < ds.length := by omega
        have hc := HR.cell m (by omega)
        have hfx := HL.e m (by omega)
        have hd9 := HDIG.out m
        obtain ⟨x, hx⟩ : ∃ x, x = f2 m := ⟨_, rfl⟩
        rw [← hx] at hc hfx
        clear hx
        obtain ⟨d, hd⟩ : ∃ d, d = dg ds m := ⟨_, rfl⟩
        rw [← hd] at hfx hd9
        have hxd : (x : Int) - 48 = (d : Int) := by omega
        have hx58 : x < 58 ∧ 48 ≤ x := by omega
        obtain ⟨e, he⟩ : ∃ e, e = d * P := ⟨_, rfl⟩
        have hem : (d : Int) * (P : Int) = (e : Int) := by rw [he]; exact (Int.natCast_mul d P).symm
        have he9 : e ≤ 9 * P := by rw [he]; exact Nat.mul_le_mul_right _ (by omega)
        obtain ⟨q, hq⟩ : ∃ q, q = (n + e) / 10 := ⟨_, rfl⟩
        obtain ⟨r, hr⟩ : ∃ r, r = (n + e) % 10 := ⟨_, rfl⟩
        have hqe : ((n : Int) + (e : Int)) / 10 = (q : Int) := by omega
        have hre : ((n : Int) + (e : Int)) - 10 * (q : Int) = (r : Int) := by omega
        have hr9 : (r : Int) ≤ 9 := by omega
        have hq10 : q ≤ 1152921504606846976 := by omega
        have HN := Hd.mk (HI.next (by omega) (by rw [Int.toNat_natCast]; exact hd) hd9 he hq hr)
        obtain ⟨v, hv⟩ : ∃ v, v = ds.length + dl - 1 - l.length := ⟨_, rfl⟩
        have hve : (ds.length : Int) + dl - l.length - 1 = (v : Int) := by omega
        rw [if_pos (by omega)] at how
        have HLT : Hd (l.length < ds.length + dl) := ⟨by omega⟩
        have hl60 : l.length ≤ 800 := by omega
        have HX := Hd.mk hfx
        have HV := Hd.mk hv
        clear hd he hq hr HI HL how hi1 hfx hv
        by_cases hw : v < 800
        · have hwb : decide ((v : Int) < 800) = true := decide_eq_true (by omega)
          have hcl := HR.cell v hw
          have hw8 : (v : Int) < 800 := by omega
          have hw0 : (0 : Int) ≤ (v : Int) := by omega
          clear HR
          go_wp2
          go_roundg m
          case measure => omega
          case rel => exact ⟨q, l ++ [r], upd f2 v (48 + r), tr2, by go_num, by rw [List.length_append, List.length_singleton]; exact congrArg (Value.int .i64) (by omega), by first | rfl | rw [hqe], by rw [List.length_append, List.length_singleton]; omega, by rw [List.length_append, List.length_singleton, show 60000 - (l.length + 1) = M by omega]; exact HN.out, by have := HV.out; have e := HLL.out.next1 (q := r) HLT.out (by omega) (by omega); rw [← show v = ds.length + dl - 1 - l.length from this] at e; exact e, by rw [show ((r : Int) + 48) = ((48 + r : Nat) : Int) by omega]; exact HRR.out.setD v (48 + r) hw, HB.set _ _⟩
        · have hwb : decide ((v : Int) < 800) = false := decide_eq_false (by omega)
          by_cases hr0 : r ≠ 0
          · have hrb : ((r : Int) != 0) = true := by simp; omega
            clear HR
            go_wp2
            go_roundg m
            case measure => omega
            case rel => exact ⟨q, l ++ [r], f2, true, by go_num, by rw [List.length_append, List.length_singleton]; exact congrArg (Value.int .i64) (by omega), by first | rfl | rw [hqe], by rw [List.length_append, List.length_singleton]; omega, by rw [List.length_append, List.length_singleton, show 60000 - (l.length + 1) = M by omega]; exact HN.out, HLL.out.next2 HLT.out (by have := HV.out; omega) hr0, HRR.out.setT true, HB.set _ _⟩
          · have hrb : ((r : Int) != 0) = false := by simp; omega
            clear HR
            go_wp2
            go_roundg m
            case measure => omega
            case rel => exact ⟨q, l ++ [r], f2, tr2, by go_num, by rw [List.length_append, List.length_singleton]; exact congrArg (Value.int .i64) (by omega), by first | rfl | rw [hqe], by rw [List.length_append, List.length_singleton]; omega, by rw [List.length_append, List.length_singleton, show 60000 - (l.length + 1) = M by omega]; exact HN.out, HLL.out.next3 HLT.out (by have := HV.out; omega) hr0, HRR.out, HB⟩
      | zero =>
        have hge : decide ((0 : Int) ≤ ((0 : Nat) : Int) - 1) = false := decide_eq_false (by omega)
        have HHI := Hd.mk HI
        have HLE : Hd (l.length = ds.length ∧ M + l.length = 59999) := ⟨by omega, by omega⟩
        have HHB := Hd.mk HB
        clear HI HL how HR hi1 hn1 hM hlm HB
        go_wp2
        clear hcn hcp hct hf hge
        go_loopg [6, 7] 60000 (fun m v6 v7 wr => ∃ (n : Nat) (i : Int) (l : List Nat) (f2 : Nat → Nat) (tr2 : Bool), v6 = .int .i64 ((ds.length : Int) + dl - l.length) ∧ v7 = .int .u64 n ∧ i < 0 ∧ l.length + m = ds.length + 60000 ∧ ds.length ≤ l.length ∧ l.length ≤ 60000 ∧
          D1Inv P ds out (60000 - l.length) n i l ∧ LsInv f2 ds l (ds.length + dl) tr tr2 ∧ Rw wr g f2 (ds.length : Nat) dp neg tr2 ∧ Bel g w wr)
        case atStart => exact ⟨n, ((0 : Nat) : Int) - 1, l, f2, tr2, rfl, rfl, by omega, by have := HLE.out; omega, by have := HLE.out; omega, by have := HLE.out; omega, by rw [show 60000 - l.length = M + 1 by have := HLE.out; omega]; exact HHI.out, HLL.out, HRR.out, HHB.out⟩
        case round =>
          clear HHI HLE HLL HRR HHB
          obtain ⟨n, i, l, f2, tr2, rfl, rfl, hi0, hlm, hdl1, hl6, HI, HL, HR, HB⟩ := hrel
          have hi1 := HI.fuel
          have hn1 := HI.lt
          have how := HOW.out _ _ _ _ HI
          have hcn := HR.cnd
          have hcp := HR.cdp
          have hct := HR.ctr
          have hf := HR.fz
          have HRR := Hd.mk HR
          have HLL := Hd.mk HL
          obtain ⟨M, hM⟩ | hM : (∃ M, 60000 - l.length = M + 1) ∨ 60000 - l.length = 0 := by
            rcases Nat.eq_zero_or_pos (60000 - l.length) with h | h
            · exact .inr h
            · exact .inl ⟨60000 - l.length - 1, by omega⟩
          case inr => exact absurd HI.eq (by rw [hM]; simp [db1])
          rw [hM] at HI
          rw [if_neg (by omega)] at how
          by_cases hn0 : 0 < n
          · rw [if_pos hn0] at how
            obtain ⟨gm, rfl⟩ : ∃ gm, gk = gm + 1 := ⟨gk - 1, by omega⟩
            have hnb : decide ((0 : Int) < (n : Int)) = true := decide_eq_true (by omega)
            obtain ⟨q, hq⟩ : ∃ q, q = n / 10 := ⟨_, rfl⟩
            obtain ⟨r, hr⟩ : ∃ r, r = n % 10 := ⟨_, rfl⟩
            have hqe : (n : Int) / 10 = (q : Int) := by omega
            have hre : (n : Int) - 10 * (q : Int) = (r : Int) := by omega
            have hr9 : (r : Int) ≤ 9 := by omega
            have hq10 : q ≤ 1152921504606846976 := by omega
            have HN := Hd.mk (HI.next2 (by omega) hn0 hq hr)
            obtain ⟨v, hv⟩ : ∃ v, v = ds.length + dl - 1 - l.length := ⟨_, rfl⟩
            have hve : (ds.length : Int) + dl - l.length - 1 = (v : Int) := by omega
            have HLT : Hd (l.length < ds.length + dl) := ⟨by omega⟩
            have hl60 : l.length ≤ 820 := by omega
            have HV := Hd.mk hv
            clear hq hr HI HL how hi1 hv
            by_cases hw : v < 800
            · have hwb : decide ((v : Int) < 800) = true := decide_eq_true (by omega)
              have hcl := HR.cell v hw
              have hw8 : (v : Int) < 800 := by omega
              have hw0 : (0 : Int) ≤ (v : Int) := by omega
              clear HR
              go_wp2
              go_roundg gm
              case measure => omega
              case rel => exact ⟨q, i - 1, l ++ [r], upd f2 v (48 + r), tr2, by rw [List.length_append, List.length_singleton]; exact congrArg (Value.int .i64) (by omega), by first | rfl | rw [hqe], by omega, by rw [List.length_append, List.length_singleton]; omega, by rw [List.length_append, List.length_singleton]; omega, by rw [List.length_append, List.length_singleton]; omega, by rw [List.length_append, List.length_singleton, show 60000 - (l.length + 1) = M by omega]; exact HN.out, by have := HV.out; have e := HLL.out.next1 (q := r) HLT.out (by omega) (by omega); rw [← show v = ds.length + dl - 1 - l.length from this] at e; exact e, by rw [show ((r : Int) + 48) = ((48 + r : Nat) : Int) by omega]; exact HRR.out.setD v (48 + r) hw, HB.set _ _⟩
            · have hwb : decide ((v : Int) < 800) = false := decide_eq_false (by omega)
              by_cases hr0 : r ≠ 0
              · have hrb : ((r : Int) != 0) = true := by simp; omega
                clear HR
                have HZ := Hd.mk (And.intro hM (And.intro hlm (And.intro hdl1 hi0)))
                clear hM hlm hdl1 hi0 hdl hdo
                go_wp2
                obtain ⟨hM, hlm, hdl1, hi0⟩ := HZ.out
                go_roundg gm
                case measure => omega
                case rel => exact ⟨q, i - 1, l ++ [r], f2, true, by rw [List.length_append, List.length_singleton]; exact congrArg (Value.int .i64) (by omega), by first | rfl | rw [hqe], by omega, by rw [List.length_append, List.length_singleton]; omega, by rw [List.length_append, List.length_singleton]; omega, by rw [List.length_append, List.length_singleton]; omega, by rw [List.length_append, List.length_singleton, show 60000 - (l.length + 1) = M by omega]; exact HN.out, HLL.out.next2 HLT.out (by have := HV.out; omega) hr0, HRR.out.setT true, HB.set _ _⟩
              · have hrb : ((r : Int) != 0) = false := by simp; omega
                clear HR
                go_wp2
                go_roundg gm
                case measure => omega
                case rel => exact ⟨q, i - 1, l ++ [r], f2, tr2, by rw [List.length_append, List.length_singleton]; exact congrArg (Value.int .i64) (by omega), by first | rfl | rw [hqe], by omega, by rw [List.length_append, List.length_singleton]; omega, by rw [List.length_append, List.length_singleton]; omega, by rw [List.length_append, List.length_singleton]; omega, by rw [List.length_append, List.length_singleton, show 60000 - (l.length + 1) = M by omega]; exact HN.out, HLL.out.next3 HLT.out (by have := HV.out; omega) hr0, HRR.out, HB⟩
          · have hnb : decide ((0 : Int) < (n : Int)) = false := decide_eq_false (by omega)
            obtain rfl := HI.done (by omega) hn0
            have HD := Hd.mk (LsInv.done (by rw [hdl]; exact HL))
            have HHB := Hd.mk HB
            have HDO := Hd.mk (dig_take (l := out.reverse) (fun i => by
              rcases Nat.lt_or_ge i out.length with h | h
              · rw [dg_reverse h]; exact hdo _
              · rw [dg_end (by rw [List.length_reverse]; exact h)]; omega) 800)
            have HLEN : Hd ((out.reverse.take 800).length = min 800 (ds.length + dl)) := ⟨by rw [List.length_take, List.length_reverse, hdl]⟩
            have HDP : Hd (-1000000 ≤ dp ∧ dp ≤ 1000000) := ⟨hdp⟩
            clear HI HL how HR hi1 hn1 hM hlm HB hdo hdl
            by_cases hbig : 800 ≤ ds.length + dl
            · have hbb : decide ((800 : Int) ≤ (ds.length : Int) + dl) = true := decide_eq_true (by omega)
              have HRF := Hd.mk (((HRR.out.setN ((ds.length : Int) + dl)).setN 800).setP (dp + dl))
              have HBF := Hd.mk (((HHB.out.set 800 (.int .i64 ((ds.length : Int) + dl))).set 800 (.int .i64 800)).set 801 (.int .i64 (dp + dl)))
              have HL8 : Hd (((out.reverse.take 800).length : Int) = 800) := ⟨by have := HLEN.out; omega⟩
              go_wp2_with (go_at_call 133; ((with_reducible refine (strim_any g f2 (out.reverse.take 800) (dp + dl) neg tr2 _ (by rw [HL8.out]; exact HRF.out) HD.out.1 (by rw [HLEN.out]; omega) HDO.out).mono ?_); rintro e w4 ⟨rfl, hd4, hb4⟩))
              go_end0
              refine ⟨rfl, ?_, HBF.out.trans hb4⟩
              rw [← HD.out.2]
              exact hd4
            · have hbb : decide ((800 : Int) ≤ (ds.length : Int) + dl) = false := decide_eq_false (by omega)
              have HRF := Hd.mk ((HRR.out.setN ((ds.length : Int) + dl)).setP (dp + dl))
              have HBF := Hd.mk ((HHB.out.set 800 (.int .i64 ((ds.length : Int) + dl))).set 801 (.int .i64 (dp + dl)))
              have HL8 : Hd (((out.reverse.take 800).length : Int) = (ds.length : Int) + dl) := ⟨by have := HLEN.out; omega⟩
              go_wp2_with (go_at_call 133; ((with_reducible refine (strim_any g f2 (out.reverse.take 800) (dp + dl) neg tr2 _ (by rw [HL8.out]; exact HRF.out) HD.out.1 (by rw [HLEN.out]; omega) HDO.out).mono ?_); rintro e w4 ⟨rfl, hd4, hb4⟩))
              go_end0
              refine ⟨rfl, ?_, HBF.out.trans hb4⟩
              rw [← HD.out.2]
              exact hd4
end Go.Proofs.YtknjgopapbemcaaGreatDoor
