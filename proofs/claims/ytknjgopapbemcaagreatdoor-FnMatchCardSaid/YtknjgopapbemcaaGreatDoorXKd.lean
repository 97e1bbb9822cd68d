/- Kd: joined by merge.py for the claim. -/
import Derived.Test.YtknjgopapbemcaaGreatDoorXKbKc
import Derived.Lib.OthersKept
import Derived.Lib.TrimUEq
import Derived.Laws.BitsAllLaws
/- Walk of strings.EqualFold: what it answers hangs on the two texts alone. -/
namespace Go.Proofs.YtknjgopapbemcaaGreatDoor
open Go.RowKit
set_option linter.unusedVariables false
set_option linter.unusedSimpArgs false
/-- The fold, rune by rune, from place pos of s. -/
def rGo : Nat → ByteArray → Nat → ByteArray → Bool
  | 0, _, _, _ => false
  | f + 1, s, pos, t => if pos < s.size then
      (if t.size = 0 then false
       else if foldR ((Utf8.decode s pos).1 : Nat) ((Lib.decodeGo t).1 : Nat) then rGo f s (pos + (Utf8.decode s pos).2) (t.extract (Lib.decodeGo t).2 t.size) else false)
    else decide (t.size = 0)
/-- Whether two letters of ASCII differ in case alone, lo below hi. -/
def foldA (lo hi : Nat) : Bool := decide (65 ≤ lo ∧ lo ≤ 90 ∧ hi = lo + 32)
/-- The fold, byte by byte while the bytes are ASCII. -/
def aGo : Nat → ByteArray → ByteArray → Nat → Bool
  | 0, s, t, _ => decide (s.size = t.size)
  | m + 1, s, t, i =>
    if 128 ≤ bt (tx s) i ||| bt (tx t) i then rGo (s.size + 1) (s.extract i s.size) 0 (t.extract i t.size)
    else if bt (tx t) i = bt (tx s) i then aGo m s t (i + 1)
    else if foldA (min (bt (tx s) i) (bt (tx t) i)) (max (bt (tx s) i) (bt (tx t) i)) then aGo m s t (i + 1)
    else false
def EFd (s t : ByteArray) : Bool := aGo (min s.size t.size) s t 0
theorem decGo_le {t : ByteArray} (h : ¬ t.size = 0) : (Lib.decodeGo t).2 ≤ t.size := by
  unfold Lib.decodeGo
  rw [if_neg h]
  have hl : t.data.toList ≠ [] := by
    intro e
    have := congrArg List.length e
    rw [sz_data] at this
    exact h this
  have h1 := Lib.decodeL_le t.data.toList hl
  have h2 := Lib.decodeL_drop t 0
  rw [List.drop_zero] at h2
  rw [h2, sz_data] at h1
  exact h1
theorem decGo_rune (t : ByteArray) : (Lib.decodeGo t).1 ≤ 1114111 := by
  unfold Lib.decodeGo
  split
  · show 65533 ≤ 1114111; omega
  · exact Lib.rune_le t 0
theorem foldLt_ascii {lo hi : Int} (h : hi < 128) : foldLt lo hi = decide (65 ≤ lo ∧ lo ≤ 90 ∧ hi = lo + 32) := by unfold foldLt; rw [if_pos h]
theorem foldLt_high {lo hi : Int} (h : ¬ hi < 128) : foldLt lo hi = orbGo 8 lo hi (sit 1 lo) := by unfold foldLt; rw [if_neg h]; rfl
theorem orbGo_on {f : Nat} {lo hi r : Int} (h : r ≠ lo ∧ r < hi) : orbGo (f + 1) lo hi r = orbGo f lo hi (sfr r) := by rw [orbGo, if_pos h]
theorem orbGo_stop {f : Nat} {lo hi r : Int} (h : ¬ (r ≠ lo ∧ r < hi)) : orbGo (f + 1) lo hi r = decide (r = hi) := by rw [orbGo, if_neg h]
/-- The orbit so far. -/
structure OrbJ (lo hi : Int) (j : Nat) : Prop where
  le : j ≤ 3
  no : ∀ i, 1 ≤ i → i ≤ j → sit i lo ≠ lo
  eq : orbGo 8 lo hi (sit 1 lo) = orbGo (8 - j) lo hi (sit (j + 1) lo)
theorem OrbJ.start (lo hi : Int) : OrbJ lo hi 0 := ⟨by omega, fun i h1 h2 => by omega, rfl⟩
theorem OrbJ.next {lo hi : Int} {j : Nat} (h : OrbJ lo hi j) (h0 : 0 ≤ lo) (h1 : lo ≤ 1114111) (hc : sit (j + 1) lo ≠ lo ∧ sit (j + 1) lo < hi) : OrbJ lo hi (j + 1) := by
  have hj := h.le
  have hno : ∀ i, 1 ≤ i → i ≤ j + 1 → sit i lo ≠ lo := fun i h2 h3 => by
    rcases Nat.lt_or_ge i (j + 1) with h4 | h4
    · exact h.no i h2 (by omega)
    · obtain rfl : i = j + 1 := by omega
      exact hc.1
  obtain ⟨k, k1, k2, k3⟩ := (sfr_round h0 h1).1
  have : j + 1 ≤ 3 := by
    apply Nat.le_of_not_gt
    intro h4
    exact hno k k1 (by omega) k3
  refine ⟨this, hno, ?_⟩
  rw [h.eq]
  obtain ⟨f, hf⟩ : ∃ f, 8 - j = f + 1 := ⟨7 - j, by omega⟩
  rw [hf, orbGo_on hc, show 8 - (j + 1) = f by omega]; rfl
theorem OrbJ.done {lo hi : Int} {j : Nat} (h : OrbJ lo hi j) (hc : ¬ (sit (j + 1) lo ≠ lo ∧ sit (j + 1) lo < hi)) : orbGo 8 lo hi (sit 1 lo) = decide (sit (j + 1) lo = hi) := by
  have hj := h.le
  rw [h.eq]
  obtain ⟨f, hf⟩ : ∃ f, 8 - j = f + 1 := ⟨7 - j, by omega⟩
  rw [hf, orbGo_stop hc]
theorem inl_ret {P : Program} {c : Code} {Q : Exit → Act → World → Prop} {a : Act} {w : World} (h : Q .ret a w) : Exit.inl P c Q .ret a w := by
  unfold Exit.inl; exact h
theorem lt_of_iter {w : World} {g pos : Nat} {s : ByteArray} (h : w.heap[g]? = some (.stringIter s pos)) : g < w.heap.size := (Array.getElem?_eq_some_iff.1 h).1
theorem eq_nat_int (a b : Nat) : ((a : Int) == (b : Int)) = decide (a = b) := by
  rw [Bool.eq_iff_iff, beq_iff_eq, decide_eq_true_iff]; omega
set_option maxHeartbeats 2000000 in
set_option maxRecDepth 100000 in
theorem efold_any (s t : ByteArray) (w : World) (hW : Wd w) (hs : s.size ≤ 400) (ht : t.size ≤ 400) : Calls Tryz.prog 13 #[.string s, .string t] w fun e w' => e = .returned (.bool (EFd s t)) ∧ Below w.heap.size w w' := by
  obtain ⟨R, hR⟩ : ∃ R, R = EFd s t := ⟨_, rfl⟩
  rw [← hR]
  have HR := Hd.mk hR
  have HW := Hd.mk hW
  clear hR hW
  go_enter Tryz.func13, Tryz.ntmps13
  go_wp2_with fail
  refine wp_scope_inline fun c' hc' => ?_
  have HC' := Hd.mk hc'
  clear hc'
  go_upto_block 0 with (fail)
  obtain ⟨n, hn⟩ : ∃ n : Nat, n = min s.size t.size := ⟨_, rfl⟩
  have hni : min (s.size : Int) (t.size : Int) = (n : Int) := by omega
  have hns : n ≤ s.size := by omega
  have hnt : n ≤ t.size := by omega
  have H0 : Hd (R = aGo n s t 0) := ⟨by rw [HR.out, hn]; rfl⟩
  clear hn
  try rw [hni]
  clear hni
  go_wp2
  go_loopg [5, 7, 8] n (fun m v5 v7 v8 wr => ∃ k : Nat, v5 = .int .i64 (k : Int) ∧ k + m = n ∧ Hd (R = aGo m s t k) ∧ w = wr)
  case atStart => exact ⟨0, rfl, by omega, H0, rfl⟩
  case round =>
    clear H0 HR
    obtain ⟨k, rfl, hk, HA, rfl⟩ := hrel
    cases gk with
    | zero =>
      obtain rfl : k = n := by omega
      go_wp2
      refine inl_ret ?_
      go_ret
      exact ⟨ret_bool (by rw [HA.out]; exact eq_nat_int _ _), Below.refl _ _⟩
    | succ m =>
      have hks : k < s.size := by omega
      have hkt : k < t.size := by omega
      have hkn : decide (k < n) = true := decide_eq_true (by omega)
      have HBs := Hd.mk (bt_get s k hks)
      have HBt := Hd.mk (bt_get t k hkt)
      have hs256 := UInt8.toNat_lt s[k]
      have ht256 := UInt8.toNat_lt t[k]
      obtain ⟨a, ha⟩ : ∃ a, a = s[k].toNat := ⟨_, rfl⟩
      obtain ⟨b, hb⟩ : ∃ b, b = t[k].toNat := ⟨_, rfl⟩
      have hor := u8_or_nat s[k].toNat t[k].toNat (by omega) (by omega)
      have HAB : Hd (R = if 128 ≤ s[k].toNat ||| t[k].toNat then rGo (s.size + 1) (s.extract k s.size) 0 (t.extract k t.size)
          else if t[k].toNat = s[k].toNat then aGo m s t (k + 1) else if foldA (min s[k].toNat t[k].toNat) (max s[k].toNat t[k].toNat) then aGo m s t (k + 1) else false) := ⟨by rw [HBs.out, HBt.out]; exact HA.out⟩
      clear HA
      by_cases hu : 128 ≤ s[k].toNat ||| t[k].toNat
      · have hub : decide ((128 : Int) ≤ ((s[k].toNat ||| t[k].toNat : Nat) : Int)) = true := decide_eq_true (by omega)
        have HRU : Hd (R = rGo (s.size + 1) (s.extract k s.size) 0 (t.extract k t.size)) := ⟨by rw [HAB.out, if_pos hu]⟩
        clear hu HAB HBs HBt
        obtain ⟨z, hz⟩ : ∃ z, z = s[k].toNat ||| t[k].toNat := ⟨_, rfl⟩
        rw [← hz] at hor hub
        clear hz
        obtain ⟨S, hS⟩ : ∃ S, S = s.extract k s.size := ⟨_, rfl⟩
        obtain ⟨T, hT⟩ : ∃ T, T = t.extract k t.size := ⟨_, rfl⟩
        have hSs : S.size ≤ 400 := by rw [hS, size_drop]; omega
        have hTs : T.size ≤ 400 := by rw [hT, size_drop]; omega
        have HRU2 : Hd (R = rGo (s.size + 1) S 0 T) := ⟨by rw [hS, hT]; exact HRU.out⟩
        have hSf : Hd (S.size < s.size + 1) := ⟨by rw [hS, size_drop]; omega⟩
        clear HRU
        go_wp2
        go_step3
        change ∃ rest, findLabel c' _ = some rest ∧ _
        refine ⟨_, by rw [HC'.out]; rfl, ?_⟩
        go_upto_region 16 with (fail)
        rw [← hS, ← hT]
        clear hS hT hs256 ht256 hor hub ha hb
        go_wp2
        have hit0 : (w.iter S 0).heap[w.heap.size]? = some (.stringIter S 0) := World.iter_heap w S 0
        have hbw0 : Below w.heap.size w (w.iter S 0) := (Below.refl _ w).alloc (Nat.le_refl _) _
        have H00 := Hd.mk (And.intro hit0 hbw0)
        clear hit0 hbw0
        go_loopg [1, 10, 11, 12, 13] S.size (fun m v1 v10 v11 v12 v13 wr => ∃ (pos : Nat) (u : ByteArray) (f : Nat), v1 = .string u ∧ wr.heap[w.heap.size]? = some (.stringIter S pos) ∧ Below w.heap.size w wr ∧ u.size ≤ 400 ∧ S.size - pos ≤ m ∧ Hd (S.size - pos < f) ∧ Hd (R = rGo f S pos u))
        case atStart => exact ⟨0, T, s.size + 1, rfl, H00.out.1, H00.out.2, hTs, by omega, ⟨by have := hSf.out; omega⟩, HRU2⟩
        case round =>
          clear H00 hTs
          obtain ⟨pos, u, f, rfl, hit, hbw, hu4, hm2, hf, HG⟩ := hrel
          obtain ⟨f, rfl⟩ : ∃ f', f = f' + 1 := ⟨f - 1, by have := hf.out; omega⟩
          by_cases hp : pos < S.size
          · obtain ⟨g2, rfl⟩ : ∃ g2, gk = g2 + 1 := ⟨gk - 1, by omega⟩
            have hnx : ∀ ty, (Instr.next (.pointer (some ⟨w.heap.size, 0, none⟩)) true ty).run Tryz.prog wr = _ := fun ty => Lib.run_next_any_at wr w.heap.size S pos ty hit hp
            have hK1 := Lib.width_pos S pos
            have hR1 := Lib.rune_le S pos
            have HG2 : Hd (R = if u.size = 0 then false else if foldR ((Utf8.decode S pos).1 : Nat) ((Lib.decodeGo u).1 : Nat) then rGo f S (pos + (Utf8.decode S pos).2) (u.extract (Lib.decodeGo u).2 u.size) else false) := ⟨by rw [HG.out, rGo, if_pos hp]⟩
            obtain ⟨R1, hR1e⟩ : ∃ R1, R1 = (Utf8.decode S pos).1 := ⟨_, rfl⟩
            obtain ⟨K1, hK1e⟩ : ∃ K1, K1 = (Utf8.decode S pos).2 := ⟨_, rfl⟩
            rw [← hR1e] at hR1 hnx HG2
            rw [← hK1e] at hK1 hnx HG2
            have hit2 := Lib.iterAt_heap wr w.heap.size S pos (pos + K1) hit
            have hbw2 := Lib.below_iterAt hbw (k := w.heap.size) (Nat.le_refl _) S (pos + K1)
            obtain ⟨W, hWd⟩ : ∃ W, wr.iterAt w.heap.size S (pos + K1) = W := ⟨_, rfl⟩
            rw [hWd] at hnx hit2 hbw2
            have hgW : w.heap.size < W.heap.size := lt_of_iter hit2
            have HIT := Hd.mk (And.intro hit2 (And.intro hbw2 hgW))
            clear hit hbw hWd hR1e hK1e HG hit2 hbw2 hgW
            by_cases hu0 : u.size = 0
            · have hub : ((u.size : Int) == 0) = true := beq_iff_eq.2 (by omega)
              have HF : Hd (R = false) := ⟨by rw [HG2.out, if_pos hu0]⟩
              clear HG2 hu0
              go_wp2
              try rw [Exit.noGoto_ret]
              go_ret
              exact ⟨ret_bool HF.out.symm, HIT.out.2.1⟩
            · have hub : ((u.size : Int) == 0) = false := beq_eq_false_iff_ne.2 (by omega)
              have hKle := decGo_le hu0
              have hT1 := decGo_rune u
              have HDC : Hd (Calls Tryz.prog 25 #[.string u] W fun e w' => e = .returned (.tuple #[.int .i32 (Lib.decodeGo u).1, .int .i64 (Lib.decodeGo u).2]) ∧ Below W.heap.size W w') := ⟨Tryz.utf8_DecodeRuneInString u W (HW.out.below HIT.out.2.1).ut⟩
              have HG3 : Hd (R = if foldR (R1 : Nat) ((Lib.decodeGo u).1 : Nat) then rGo f S (pos + K1) (u.extract (Lib.decodeGo u).2 u.size) else false) := ⟨by rw [HG2.out, if_neg hu0]⟩
              obtain ⟨T1, hT1e⟩ : ∃ T1, T1 = (Lib.decodeGo u).1 := ⟨_, rfl⟩
              obtain ⟨K2, hK2e⟩ : ∃ K2, K2 = (Lib.decodeGo u).2 := ⟨_, rfl⟩
              rw [← hT1e] at hT1 HDC HG3
              rw [← hK2e] at hKle HDC HG3
              clear hT1e hK2e HG2
              go_wp2_with fail
              refine HDC.out.mono ?_
              rintro e w2 ⟨rfl, hb2⟩
              have HIT2 : Hd (w2.heap[w.heap.size]? = some (.stringIter S (pos + K1)) ∧ Below w.heap.size w w2 ∧ w.heap.size < w2.heap.size) := ⟨by
                refine ⟨?_, HIT.out.2.1.trans (hb2.mono HIT.out.2.1.size), Nat.lt_of_lt_of_le HIT.out.2.2 hb2.size⟩
                rw [hb2.block _ HIT.out.2.2]; exact HIT.out.1⟩
              clear hb2 HIT hnx
              have hK2i : (K2 : Int) ≤ (u.size : Int) := by omega
              obtain ⟨u2, hu2⟩ : ∃ u2, u2 = u.extract K2 u.size := ⟨_, rfl⟩
              have hu24 : u2.size ≤ 400 := by rw [hu2, size_drop]; omega
              have HG4 : Hd (R = if foldR (R1 : Nat) (T1 : Nat) then rGo f S (pos + K1) u2 else false) := ⟨by rw [hu2]; exact HG3.out⟩
              have HMS : Hd (S.size - (pos + K1) ≤ g2 ∧ S.size - (pos + K1) < f) := ⟨by have := hf.out; omega⟩
              go_upto_region 23 with (fail)
              rw [← hu2]
              clear hu2 HG3 hf hK1 hKle hK2i hm2
              by_cases hts : T1 = R1
              · have hbt : ((T1 : Int) == (R1 : Int)) = true := beq_iff_eq.2 (by omega)
                have HG5 : Hd (R = rGo f S (pos + K1) u2) := ⟨by rw [HG4.out, hts]; unfold foldR; rw [if_pos rfl, if_pos rfl]⟩
                clear hts HG4
                go_wp2
                go_roundg g2
                case measure => omega
                case rel => exact ⟨pos + K1, u2, f, rfl, HIT2.out.1, HIT2.out.2.1, hu24, HMS.out.1, ⟨HMS.out.2⟩, HG5⟩
              · have hbt : ((T1 : Int) == (R1 : Int)) = false := beq_eq_false_iff_ne.2 (by omega)
                go_upto_if 87 with (fail)
                go_cut [10, 11] from 85 to 89 (fun v10 v11 wc => ∃ lo hi : Nat, v10 = .int .i32 (lo : Int) ∧ v11 = .int .i32 (hi : Int) ∧ lo < hi ∧ hi ≤ 1114111 ∧ Hd (foldR (R1 : Nat) (T1 : Nat) = foldLt (lo : Int) (hi : Int)) ∧ w2 = wc)
                case first =>
                  by_cases hlt : T1 < R1
                  · have hltb : decide ((T1 : Int) < (R1 : Int)) = true := decide_eq_true (by omega)
                    have HFL : Hd (foldR (R1 : Nat) (T1 : Nat) = foldLt (T1 : Int) (R1 : Int)) := ⟨by unfold foldR; rw [if_neg (by omega), if_pos (by omega)]⟩
                    go_wp2
                    go_meet
                    exact ⟨T1, R1, rfl, rfl, hlt, hR1, HFL, rfl⟩
                  · have hltb : decide ((T1 : Int) < (R1 : Int)) = false := decide_eq_false (by omega)
                    have HFL : Hd (foldR (R1 : Nat) (T1 : Nat) = foldLt (R1 : Int) (T1 : Int)) := ⟨by unfold foldR; rw [if_neg (by omega), if_neg (by omega)]⟩
                    go_wp2
                    go_meet
                    exact ⟨R1, T1, rfl, rfl, by omega, hT1, HFL, rfl⟩
                case rest =>
                  obtain ⟨lo, hi, rfl, rfl, hlh, hi1, HFL, rfl⟩ := hcut
                  have HG5 : Hd (R = if foldLt (lo : Int) (hi : Int) then rGo f S (pos + K1) u2 else false) := ⟨by rw [← HFL.out]; exact HG4.out⟩
                  clear HFL HG4 hts hbt hT1 hR1
                  by_cases h128 : hi < 128
                  · have hb128 : decide ((hi : Int) < 128) = true := decide_eq_true (by omega)
                    have hfa := foldLt_ascii (lo := (lo : Int)) (hi := (hi : Int)) (by omega)
                    by_cases hA : 65 ≤ lo ∧ lo ≤ 90 ∧ hi = lo + 32
                    · have HR6 : Hd (R = rGo f S (pos + K1) u2) := ⟨by rw [HG5.out, hfa, decide_eq_true (by omega), if_pos rfl]⟩
                      obtain ⟨a1, a2, a3⟩ := hA
                      have b1 : (65 : Int) ≤ (lo : Int) := by omega
                      have b2 : (lo : Int) ≤ 90 := by omega
                      have b3 : ((hi : Int) == (lo : Int) + 97 - 65) = true := beq_iff_eq.2 (by omega)
                      clear hfa HG5 a3 hlh
                      go_wp2
                      go_roundg g2
                      case measure => omega
                      case rel => exact ⟨pos + K1, u2, f, rfl, HIT2.out.1, HIT2.out.2.1, hu24, HMS.out.1, ⟨HMS.out.2⟩, HR6⟩
                    · have HR6 : Hd (R = false) := ⟨by rw [HG5.out, hfa, decide_eq_false (by omega), if_neg (by simp)]⟩
                      clear hfa HG5
                      by_cases c1 : 65 ≤ lo
                      · have b1 : (65 : Int) ≤ (lo : Int) := by omega
                        by_cases c2 : lo ≤ 90
                        · have b2 : (lo : Int) ≤ 90 := by omega
                          have b3 : ((hi : Int) == (lo : Int) + 97 - 65) = false := beq_eq_false_iff_ne.2 (by omega)
                          clear hA
                          go_wp2
                          try rw [Exit.noGoto_ret]
                          go_ret
                          exact ⟨ret_bool HR6.out.symm, HIT2.out.2.1⟩
                        · have b2 : ¬ (lo : Int) ≤ 90 := by omega
                          clear hA
                          go_wp2
                          try rw [Exit.noGoto_ret]
                          go_ret
                          exact ⟨ret_bool HR6.out.symm, HIT2.out.2.1⟩
                      · have b1 : ¬ (65 : Int) ≤ (lo : Int) := by omega
                        clear hA
                        go_wp2
                        try rw [Exit.noGoto_ret]
                        go_ret
                        exact ⟨ret_bool HR6.out.symm, HIT2.out.2.1⟩
                  · have hb128 : decide ((hi : Int) < 128) = false := decide_eq_false (by omega)
                    obtain ⟨G, hG⟩ : ∃ G, G = orbGo 8 (lo : Int) (hi : Int) (sit 1 (lo : Int)) := ⟨_, rfl⟩
                    have HG6 : Hd (R = if G then rGo f S (pos + K1) u2 else false) := ⟨by rw [HG5.out, foldLt_high (by omega), hG]⟩
                    have HGG := Hd.mk hG
                    have hlo0 : (0 : Int) ≤ (lo : Int) := by omega
                    have hlo1 : (lo : Int) ≤ 1114111 := by omega
                    have HSF : Hd (∀ j W, Below w.heap.size w W → Calls Tryz.prog 26 #[.int .i32 (sit j (lo : Int))] W fun e w' => e = .returned (.int .i32 (sit (j + 1) (lo : Int))) ∧ Below W.heap.size W w') := ⟨fun j W hb => sf_any _ W (HW.out.below hb) (sit_range hlo0 hlo1 j).1 (sit_range hlo0 hlo1 j).2⟩
                    have HSF0 : Hd (Calls Tryz.prog 26 #[.int .i32 (lo : Int)] w2 fun e w' => e = .returned (.int .i32 (sit 1 (lo : Int))) ∧ Below w2.heap.size w2 w') := ⟨HSF.out 0 w2 HIT2.out.2.1⟩
                    clear hG HG5 h128
                    go_wp2_with fail
                    refine HSF0.out.mono ?_
                    rintro e w3 ⟨rfl, hb3⟩
                    have HIT3 : Hd (w3.heap[w.heap.size]? = some (.stringIter S (pos + K1)) ∧ Below w.heap.size w w3 ∧ w.heap.size < w3.heap.size) := ⟨by
                      refine ⟨?_, HIT2.out.2.1.trans (hb3.mono HIT2.out.2.1.size), Nat.lt_of_lt_of_le HIT2.out.2.2 hb3.size⟩
                      rw [hb3.block _ HIT2.out.2.2]; exact HIT2.out.1⟩
                    clear hb3
                    obtain ⟨r0, hr0⟩ : ∃ r0, r0 = sit 1 (lo : Int) := ⟨_, rfl⟩
                    rw [← hr0]
                    have HR0 := Hd.mk hr0
                    clear hr0
                    go_upto_block 4 with (fail)
                    go_cut [13] from 107 to 116 (fun v13 wc => ∃ r : Int, v13 = .int .i32 r ∧ Hd (decide (r = (hi : Int)) = G) ∧ Hd (wc.heap[w.heap.size]? = some (.stringIter S (pos + K1)) ∧ Below w.heap.size w wc ∧ w.heap.size < wc.heap.size))
                    case first =>
                      go_wp2
                      go_loopg [13] 4 (fun m v13 wr => ∃ (j : Nat) (r : Int), v13 = .int .i32 r ∧ Hd (r = sit (j + 1) (lo : Int)) ∧ j + m = 4 ∧ Hd (OrbJ (lo : Int) (hi : Int) j) ∧ Hd (wr.heap[w.heap.size]? = some (.stringIter S (pos + K1)) ∧ Below w.heap.size w wr ∧ w.heap.size < wr.heap.size))
                      case atStart => exact ⟨0, r0, rfl, HR0, by omega, ⟨OrbJ.start _ _⟩, HIT3⟩
                      case round =>
                        obtain ⟨j, r, rfl, HRJ, hj4, HJ, HITr⟩ := hrel
                        by_cases hc : r ≠ (lo : Int) ∧ r < (hi : Int)
                        · have HJ2 : Hd (OrbJ (lo : Int) (hi : Int) (j + 1)) := ⟨HJ.out.next hlo0 hlo1 (by rw [← HRJ.out]; exact hc)⟩
                          have hj3 := HJ2.out.le
                          obtain ⟨m, rfl⟩ : ∃ m, gk = m + 1 := ⟨gk - 1, by omega⟩
                          have hne : (r != (lo : Int)) = true := by rw [bne, beq_eq_false_iff_ne.2 hc.1]; rfl
                          have hltb : decide (r < (hi : Int)) = true := decide_eq_true hc.2
                          have HCS : Hd (Calls Tryz.prog 26 #[.int .i32 r] wr fun e w' => e = .returned (.int .i32 (sit (j + 1 + 1) (lo : Int))) ∧ Below wr.heap.size wr w') := ⟨by rw [HRJ.out]; exact HSF.out (j + 1) wr HITr.out.2.1⟩
                          clear hc
                          go_wp2_with fail
                          refine HCS.out.mono ?_
                          rintro e w4 ⟨rfl, hb4⟩
                          have HIT4 : Hd (w4.heap[w.heap.size]? = some (.stringIter S (pos + K1)) ∧ Below w.heap.size w w4 ∧ w.heap.size < w4.heap.size) := ⟨by
                            refine ⟨?_, HITr.out.2.1.trans (hb4.mono HITr.out.2.1.size), Nat.lt_of_lt_of_le HITr.out.2.2 hb4.size⟩
                            rw [hb4.block _ HITr.out.2.2]; exact HITr.out.1⟩
                          clear hb4
                          go_wp2
                          go_roundg m
                          case measure => omega
                          case rel => exact ⟨j + 1, _, rfl, ⟨rfl⟩, by omega, HJ2, HIT4⟩
                        · have HDN : Hd (decide (r = (hi : Int)) = G) := ⟨by rw [HGG.out, HJ.out.done (by rw [← HRJ.out]; exact hc), ← HRJ.out]⟩
                          by_cases hrl : r = (lo : Int)
                          · have hne : (r != (lo : Int)) = false := by rw [bne, beq_iff_eq.2 hrl]; rfl
                            clear hc hrl
                            go_wp2
                            go_meet
                            case rel => exact ⟨r, rfl, HDN, HITr⟩
                          · have hne : (r != (lo : Int)) = true := by rw [bne, beq_eq_false_iff_ne.2 hrl]; rfl
                            have hltb : decide (r < (hi : Int)) = false := decide_eq_false (fun h => hc ⟨hrl, h⟩)
                            clear hc hrl
                            go_wp2
                            go_meet
                            case rel => exact ⟨r, rfl, HDN, HITr⟩
                    case rest =>
                      obtain ⟨r, rfl, HDN, HIT5⟩ := hcut
                      cases G with
                      | true =>
                        have hrb : (r == (hi : Int)) = true := beq_iff_eq.2 (of_decide_eq_true HDN.out)
                        have HR6 : Hd (R = rGo f S (pos + K1) u2) := ⟨by rw [HG6.out]; rfl⟩
                        go_wp2
                        go_roundg g2
                        case measure => omega
                        case rel => exact ⟨pos + K1, u2, f, rfl, HIT5.out.1, HIT5.out.2.1, hu24, HMS.out.1, ⟨HMS.out.2⟩, HR6⟩
                      | false =>
                        have hrb : (r == (hi : Int)) = false := beq_eq_false_iff_ne.2 (of_decide_eq_false HDN.out)
                        have HR6 : Hd (R = false) := ⟨by rw [HG6.out]; rfl⟩
                        go_wp2
                        try rw [Exit.noGoto_ret]
                        go_ret
                        exact ⟨ret_bool HR6.out.symm, HIT5.out.2.1⟩
          · have hnx : ∀ ty, (Instr.next (.pointer (some ⟨w.heap.size, 0, none⟩)) true ty).run Tryz.prog wr = _ := fun ty => Lib.run_next_end_at wr w.heap.size S pos ty hit hp
            have HF : Hd (R = decide (u.size = 0)) := ⟨by rw [HG.out, rGo, if_neg hp]⟩
            have HB := Hd.mk hbw
            clear hit hbw HG hf hp
            go_wp2
            try rw [Exit.noGoto_ret]
            go_ret
            exact ⟨ret_bool (by rw [HF.out]; exact eq_nat_int _ 0), HB.out⟩
      · have hub : decide ((128 : Int) ≤ ((s[k].toNat ||| t[k].toNat : Nat) : Int)) = false := decide_eq_false (by omega)
        have HRU : Hd (R = if t[k].toNat = s[k].toNat then aGo m s t (k + 1) else if foldA (min s[k].toNat t[k].toNat) (max s[k].toNat t[k].toNat) then aGo m s t (k + 1) else false) := ⟨by rw [HAB.out, if_neg hu]⟩
        have hza : s[k].toNat ≤ s[k].toNat ||| t[k].toNat := Nat.left_le_or
        have hzb : t[k].toNat ≤ s[k].toNat ||| t[k].toNat := Nat.right_le_or
        have hs128 : s[k].toNat < 128 := by omega
        have ht128 : t[k].toNat < 128 := by omega
        clear hu HAB HBs HBt hza hzb
        obtain ⟨z, hz⟩ : ∃ z, z = s[k].toNat ||| t[k].toNat := ⟨_, rfl⟩
        rw [← hz] at hor hub
        clear hz ha hb
        by_cases heq : t[k].toNat = s[k].toNat
        · have hbe : ((t[k].toNat : Int) == (s[k].toNat : Int)) = true := beq_iff_eq.2 (by omega)
          have HR6 : Hd (R = aGo m s t (k + 1)) := ⟨by rw [HRU.out, if_pos heq]⟩
          clear HRU heq
          go_wp2
          go_roundg m
          case measure => omega
          case rel => exact ⟨k + 1, by go_num, by omega, HR6, rfl⟩
        · have hbe : ((t[k].toNat : Int) == (s[k].toNat : Int)) = false := beq_eq_false_iff_ne.2 (by omega)
          have HR5 : Hd (R = if foldA (min s[k].toNat t[k].toNat) (max s[k].toNat t[k].toNat) then aGo m s t (k + 1) else false) := ⟨by rw [HRU.out, if_neg heq]⟩
          clear HRU
          by_cases hlt : t[k].toNat < s[k].toNat
          · have hltb : decide ((t[k].toNat : Int) < (s[k].toNat : Int)) = true := decide_eq_true (by omega)
            rw [Nat.min_eq_right (by omega), Nat.max_eq_left (by omega)] at HR5
            by_cases hA : 65 ≤ t[k].toNat ∧ t[k].toNat ≤ 90 ∧ s[k].toNat = t[k].toNat + 32
            · have HR6 : Hd (R = aGo m s t (k + 1)) := ⟨by rw [HR5.out, foldA, decide_eq_true hA, if_pos rfl]⟩
              obtain ⟨a1, a2, a3⟩ := hA
              have b1 : (65 : Int) ≤ (t[k].toNat : Int) := by omega
              have b2 : (t[k].toNat : Int) ≤ 90 := by omega
              have b3 : ((s[k].toNat : Int) == (t[k].toNat : Int) + 97 - 65) = true := beq_iff_eq.2 (by omega)
              clear a3 HR5
              go_wp2
              go_roundg m
              case measure => omega
              case rel => exact ⟨k + 1, by go_num, by omega, HR6, rfl⟩
            · have HR6 : Hd (R = false) := ⟨by rw [HR5.out, foldA, decide_eq_false hA, if_neg (by simp)]⟩
              clear HR5
              by_cases c1 : 65 ≤ t[k].toNat
              · have b1 : (65 : Int) ≤ (t[k].toNat : Int) := by omega
                by_cases c2 : t[k].toNat ≤ 90
                · have b2 : (t[k].toNat : Int) ≤ 90 := by omega
                  have b3 : ((s[k].toNat : Int) == (t[k].toNat : Int) + 97 - 65) = false := beq_eq_false_iff_ne.2 (by omega)
                  clear hA
                  go_wp2
                  refine inl_ret ?_
                  go_ret
                  exact ⟨ret_bool HR6.out.symm, Below.refl _ _⟩
                · have b2 : ¬ (t[k].toNat : Int) ≤ 90 := by omega
                  clear hA
                  go_wp2
                  refine inl_ret ?_
                  go_ret
                  exact ⟨ret_bool HR6.out.symm, Below.refl _ _⟩
              · have b1 : ¬ (65 : Int) ≤ (t[k].toNat : Int) := by omega
                clear hA
                go_wp2
                refine inl_ret ?_
                go_ret
                exact ⟨ret_bool HR6.out.symm, Below.refl _ _⟩
          · have hltb : decide ((t[k].toNat : Int) < (s[k].toNat : Int)) = false := decide_eq_false (by omega)
            rw [Nat.min_eq_left (by omega), Nat.max_eq_right (by omega)] at HR5
            by_cases hA : 65 ≤ s[k].toNat ∧ s[k].toNat ≤ 90 ∧ t[k].toNat = s[k].toNat + 32
            · have HR6 : Hd (R = aGo m s t (k + 1)) := ⟨by rw [HR5.out, foldA, decide_eq_true hA, if_pos rfl]⟩
              obtain ⟨a1, a2, a3⟩ := hA
              have b1 : (65 : Int) ≤ (s[k].toNat : Int) := by omega
              have b2 : (s[k].toNat : Int) ≤ 90 := by omega
              have b3 : ((t[k].toNat : Int) == (s[k].toNat : Int) + 97 - 65) = true := beq_iff_eq.2 (by omega)
              clear a3 HR5
              go_wp2
              go_roundg m
              case measure => omega
              case rel => exact ⟨k + 1, by go_num, by omega, HR6, rfl⟩
            · have HR6 : Hd (R = false) := ⟨by rw [HR5.out, foldA, decide_eq_false hA, if_neg (by simp)]⟩
              clear HR5
              by_cases c1 : 65 ≤ s[k].toNat
              · have b1 : (65 : Int) ≤ (s[k].toNat : Int) := by omega
                by_cases c2 : s[k].toNat ≤ 90
                · have b2 : (s[k].toNat : Int) ≤ 90 := by omega
                  have b3 : ((t[k].toNat : Int) == (s[k].toNat : Int) + 97 - 65) = false := beq_eq_false_iff_ne.2 (by omega)
                  clear hA
                  go_wp2
                  refine inl_ret ?_
                  go_ret
                  exact ⟨ret_bool HR6.out.symm, Below.refl _ _⟩
                · have b2 : ¬ (s[k].toNat : Int) ≤ 90 := by omega
                  clear hA
                  go_wp2
                  refine inl_ret ?_
                  go_ret
                  exact ⟨ret_bool HR6.out.symm, Below.refl _ _⟩
              · have b1 : ¬ (65 : Int) ≤ (s[k].toNat : Int) := by omega
                clear hA
                go_wp2
                refine inl_ret ?_
                go_ret
                exact ⟨ret_bool HR6.out.symm, Below.refl _ _⟩
theorem efd_ok : EFok EFd := fun s t w hW hs ht => efold_any s t w hW hs ht
end Go.Proofs.YtknjgopapbemcaaGreatDoor
