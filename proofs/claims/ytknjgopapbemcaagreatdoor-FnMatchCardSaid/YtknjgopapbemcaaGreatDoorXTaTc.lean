/- Ta Tb Tc: joined by merge.py for the claim. -/
import Derived.Test.YtknjgopapbemcaaGreatDoorXDr
/- Walks: numbers as texts, on both sides. -/
namespace Go.Proofs.YtknjgopapbemcaaGreatDoor
open Go.RowKit
set_option linter.unusedVariables false
set_option linter.unusedSimpArgs false
theorem tx_inj {s t : ByteArray} (h : tx s = tx t) : s = t := by
  unfold tx at h
  have h1 : s.data.toList = t.data.toList := by
    have : ∀ (a b : List UInt8), a.map UInt8.toNat = b.map UInt8.toNat → a = b := by
      intro a
      induction a with
      | nil => intro b hb; cases b with
        | nil => rfl
        | cons x b => simp at hb
      | cons y a ih => intro b hb; cases b with
        | nil => simp at hb
        | cons x b =>
          rw [List.map_cons, List.map_cons] at hb
          injection hb with h1 h2
          rw [UInt8.toNat_inj.1 h1, ih b h2]
    exact this _ _ h
  cases s with | mk a => cases t with | mk b => exact congrArg ByteArray.mk (Array.toList_inj.1 h1)
/-- A whole number in decimals. -/
def dcm (n : Int) : List Nat := if n < 0 then 45 :: fu n.natAbs else fu n.natAbs
theorem tx_append (s t : ByteArray) : tx (s ++ t) = tx s ++ tx t := by
  unfold tx; rw [ByteArray.data_append, Array.toList_append, List.map_append]
theorem wrap_neg {n : Int} {m : Nat} (h : -9223372036854775808 ≤ n) (hm : n = -(m : Int)) : IntKind.u64.wrap (-IntKind.u64.wrap n) = (m : Int) := by
  have e : ∀ x : Int, IntKind.u64.wrap x = x % 18446744073709551616 := fun x => rfl
  rw [e, e]
  omega
/-- A text of these bytes. -/
def TextOut (l : List Nat) (e : Ending) : Prop := ∃ t : ByteArray, e = .returned (.string t) ∧ tx t = l
set_option maxHeartbeats 1000000 in
set_option maxRecDepth 100000 in
theorem fint_any (n : Int) (w : World) (h1 : -9223372036854775808 ≤ n) (h2 : n ≤ 9223372036854775807) :
    Calls Tryz.prog 80 #[.int .i64 n, .int .i64 10] w fun e w' => TextOut (dcm n) e ∧ Below w.heap.size w w' := by
  obtain ⟨L, hL⟩ : ∃ L, L = dcm n := ⟨_, rfl⟩
  rw [← hL]
  have HL := Hd.mk hL
  clear hL
  obtain ⟨m, hm⟩ : ∃ m : Nat, m = n.natAbs := ⟨_, rfl⟩
  by_cases hn : n < 0
  · have hb : decide (n < 0) = true := decide_eq_true hn
    have HD : Hd (L = 45 :: fu m) := ⟨by rw [HL.out, hm]; unfold dcm; rw [if_pos hn]⟩
    have HC : Hd (∀ w z, z = (m : Int) → Calls Tryz.prog 104 #[.int .u64 z, .int .i64 10] w fun e w' => TextOut (fu m) e ∧ Below w.heap.size w w') := ⟨fun w z hz => by rw [hz]; exact formatUint_any m w (by omega)⟩
    have hwr : Hd (IntKind.u64.wrap (-IntKind.u64.wrap n) = (m : Int)) := ⟨wrap_neg (by omega) (by omega)⟩
    go_enter Tryz.func80, Tryz.ntmps80
    go_wp2_with fail
    with_reducible refine (HC.out _ _ hwr.out).mono ?_
    rintro e w' ⟨⟨t, rfl, ht⟩, hb⟩
    have HT := Hd.mk ht
    have hsz : ¬ 9223372036854775807 < 1 + t.size := by
      have := fu_len 19 m (by omega)
      rw [← ht, tx_length] at this
      omega
    clear ht
    go_wp2_with fail
    go_ret
    exact ⟨⟨_, rfl, by rw [tx_append, HT.out, HD.out]; rfl⟩, hb⟩
  · have hb : decide (n < 0) = false := decide_eq_false hn
    have HD : Hd (L = fu m) := ⟨by rw [HL.out, hm]; unfold dcm; rw [if_neg hn]⟩
    have HC : Hd (∀ w z, z = (m : Int) → Calls Tryz.prog 104 #[.int .u64 z, .int .i64 10] w fun e w' => TextOut (fu m) e ∧ Below w.heap.size w w') := ⟨fun w z hz => by rw [hz]; exact formatUint_any m w (by omega)⟩
    have hn0 : 0 ≤ n := by omega
    have hnm : Hd (n = (m : Int)) := ⟨by omega⟩
    go_enter Tryz.func80, Tryz.ntmps80
    go_wp2_with fail
    with_reducible refine (HC.out _ _ hnm.out).mono ?_
    rintro e w' ⟨⟨t, rfl, ht⟩, hb⟩
    have HT := Hd.mk ht
    clear ht
    go_wp2_with fail
    go_ret
    exact ⟨⟨_, rfl, by rw [HT.out, HD.out]⟩, hb⟩
set_option maxHeartbeats 1000000 in
set_option maxRecDepth 100000 in
theorem itoa_any (n : Int) (w : World) (h1 : -9223372036854775808 ≤ n) (h2 : n ≤ 9223372036854775807) :
    Calls Tryz.prog 61 #[.int .i64 n] w fun e w' => TextOut (dcm n) e ∧ Below w.heap.size w w' := by
  have HC := Hd.mk (fint_any n w h1 h2)
  go_enter Tryz.func61, Tryz.ntmps61
  go_wp2_with fail
  refine HC.out.mono ?_
  rintro e w' ⟨⟨t, rfl, ht⟩, hb⟩
  have HT := Hd.mk ht
  clear ht
  go_wp2_with fail
  go_ret
  exact ⟨⟨_, rfl, HT.out⟩, hb⟩
theorem ta_ss (s : ByteArray) (w : World) : (Instr.typeAssert (.iface 9 (.string s)) 20 9 true).run Tryz.prog w = .ok (.tuple #[.string s, .bool true]) w := by kernel_rfl
theorem ta_is (n : Int) (w : World) : (Instr.typeAssert (.iface 3 (.int .i64 n)) 20 9 true).run Tryz.prog w = .ok (.tuple #[.string ⟨#[]⟩, .bool false]) w := by kernel_rfl
theorem ta_ii (n : Int) (w : World) : (Instr.typeAssert (.iface 3 (.int .i64 n)) 20 3 true).run Tryz.prog w = .ok (.tuple #[.int .i64 n, .bool true]) w := by kernel_rfl
set_option maxHeartbeats 1000000 in
set_option maxRecDepth 100000 in
theorem zzText_str (s : ByteArray) (w : World) : Calls Tryz.prog 47 #[.iface 9 (.string s)] w fun e w' => e = .returned (.string s) ∧ w = w' := by
  have h1 := ta_ss s
  go_enter Tryz.func47, Tryz.ntmps47
  go_wp2
  go_ret
  exact ⟨rfl, rfl⟩
set_option maxHeartbeats 1000000 in
set_option maxRecDepth 100000 in
theorem zzText_int (n : Int) (w : World) (h1 : -9223372036854775808 ≤ n) (h2 : n ≤ 9223372036854775807) :
    Calls Tryz.prog 47 #[.iface 3 (.int .i64 n)] w fun e w' => TextOut (dcm n) e ∧ Below w.heap.size w w' := by
  have HC := Hd.mk (itoa_any n w h1 h2)
  have t1 := ta_is n
  have t2 := ta_ii n
  go_enter Tryz.func47, Tryz.ntmps47
  go_wp2_with fail
  refine HC.out.mono ?_
  rintro e w' ⟨⟨t, rfl, ht⟩, hb⟩
  have HT := Hd.mk ht
  clear ht
  go_wp2_with fail
  go_ret
  exact ⟨⟨_, rfl, HT.out⟩, hb⟩
end Go.Proofs.YtknjgopapbemcaaGreatDoor
/- Walk of the reference's Decimal. -/
namespace Go.Proofs.YtknjgopapbemcaaGreatDoor
open Go.RowKit
set_option linter.unusedVariables false
set_option linter.unusedSimpArgs false
theorem tx_one {x : Nat} (h : x < 256) : tx ⟨#[UInt8.ofNat x]⟩ = [x] := by
  have := tx_mk [x] (fun j => by
    cases j with
    | zero => exact h
    | succ j => unfold bt; simp)
  exact this
theorem one_conv (w : World) (X : Int) (x : Nat) (hX : X = (x : Int)) (hx : x < 256) : (convert 70 9 (.slice (some ⟨w.heap.size, 0, none⟩) 1 1)).run Tryz.prog (w.alloc (.cells #[.int .u8 X] 5)) = .ok (.string ⟨#[UInt8.ofNat x]⟩) (w.alloc (.cells #[.int .u8 X] 5)) := by
  have e := run_convert_bytes_back (P := Tryz.prog) (w.alloc (.cells #[.int .u8 X] 5)) 70 9 5 ⟨w.heap.size, 0, none⟩ 1 [UInt8.ofNat x] Tryz.underlying70 Tryz.underlying5 Tryz.underlying9 (by
    intro j hj
    have hj0 : j = 0 := by simp at hj; omega
    subst hj0
    have ea : (⟨w.heap.size, 0, none⟩ : Addr).add 0 = ⟨w.heap.size, 0, none⟩ := by unfold Addr.add; simp
    rw [ea, World.cell?_alloc_at _ _ _ _ rfl, hX]
    simp [Nat.mod_eq_of_lt hx])
  exact e
theorem conv_after {W w' : World} {X : Int} {x g : Nat} (hb : Below W.heap.size W w') (hg : g < W.heap.size) (hc : W.cell? ⟨g, 0, none⟩ = some (.int .u8 X)) (hX : X = (x : Int)) (hx : x < 256) :
    (convert 70 9 (.slice (some ⟨g, 0, none⟩) 1 1)).run Tryz.prog w' = .ok (.string ⟨#[UInt8.ofNat x]⟩) w' := by
  have e := run_convert_bytes_back (P := Tryz.prog) w' 70 9 5 ⟨g, 0, none⟩ 1 [UInt8.ofNat x] Tryz.underlying70 Tryz.underlying5 Tryz.underlying9 (by
    intro j hj
    have hj0 : j = 0 := by simp at hj; omega
    subst hj0
    have ea : (⟨g, 0, none⟩ : Addr).add 0 = ⟨g, 0, none⟩ := by unfold Addr.add; simp
    rw [ea, hb.cell (p := ⟨g, 0, none⟩) hg, hc, hX]
    simp [Nat.mod_eq_of_lt hx])
  exact e
theorem dcm_lo {n : Int} (h : n < 0) (h10 : -10 < n) : dcm n = [45, 48 + n.natAbs] := by unfold dcm; rw [if_pos h, fu_lo (by omega)]
theorem dcm_neg {n : Int} (h : n < 0) (h10 : ¬ -10 < n) : dcm n = dcm (n.tdiv 10) ++ [48 + n.natAbs % 10] := by
  have e : n.tdiv 10 = -((n.natAbs / 10 : Nat) : Int) := by
    obtain ⟨m, rfl⟩ : ∃ m : Nat, n = -(m : Int) := ⟨n.natAbs, by omega⟩
    rw [Int.neg_tdiv, Int.natAbs_neg, Int.natAbs_natCast]; rfl
  rw [e]
  unfold dcm
  rw [if_pos h, if_pos (by omega), fu_hi (by omega), Int.natAbs_neg, Int.natAbs_natCast, List.cons_append]
theorem dcm_pos_lo {n : Int} (h : ¬ n < 0) (h10 : n < 10) : dcm n = [48 + n.natAbs] := by unfold dcm; rw [if_neg h, fu_lo (by omega)]
theorem dcm_pos {n : Int} (h : ¬ n < 0) (h10 : ¬ n < 10) : dcm n = dcm (n / 10) ++ [48 + n.natAbs % 10] := by
  unfold dcm
  rw [if_neg h, if_neg (by omega), fu_hi (by omega)]
  congr 2
  omega
theorem tmod_neg {n : Int} (h : n < 0) : n.tmod 10 = -((n.natAbs % 10 : Nat) : Int) := by
  obtain ⟨m, rfl⟩ : ∃ m : Nat, n = -(m : Int) := ⟨n.natAbs, by omega⟩
  rw [Int.neg_tmod, Int.natAbs_neg, Int.natAbs_natCast]; rfl
theorem tdiv_neg {n : Int} (h : n < 0) : n.tdiv 10 = -((n.natAbs / 10 : Nat) : Int) := by
  obtain ⟨m, rfl⟩ : ∃ m : Nat, n = -(m : Int) := ⟨n.natAbs, by omega⟩
  rw [Int.neg_tdiv, Int.natAbs_neg, Int.natAbs_natCast]; rfl
theorem dcm_len {n : Int} (h : n.natAbs < 10 ^ 20) : (dcm n).length ≤ 21 := by
  have := fu_len 19 n.natAbs h
  unfold dcm; split
  · rw [List.length_cons]; omega
  · omega
set_option maxHeartbeats 1000000 in
set_option maxRecDepth 100000 in
theorem dec_any : ∀ (k : Nat) (n : Int) (w : World), -9223372036854775808 ≤ n → n ≤ 9223372036854775807 → n.natAbs ≤ k →
    Calls Tryz.prog 17 #[.int .i64 n] w fun e w' => TextOut (dcm n) e ∧ Below w.heap.size w w' := by
  intro k
  induction k with
  | zero =>
    intro n w h1 h2 hk
    obtain rfl : n = 0 := by omega
    have hc : ∀ W : World, (convert 70 9 (.slice (some ⟨W.heap.size, 0, none⟩) 1 1)).run Tryz.prog (W.alloc (.cells #[.int .u8 48] 5)) = .ok (.string ⟨#[UInt8.ofNat 48]⟩) (W.alloc (.cells #[.int .u8 48] 5)) := fun W => one_conv W 48 48 rfl (by omega)
    go_enter Tryz.func17, Tryz.ntmps17
    go_wp2_with fail
    go_ret
    exact ⟨⟨_, rfl, by rw [dcm_pos_lo (by omega) (by omega)]; rfl⟩, (Below.refl _ _).alloc (Nat.le_refl _) _⟩
  | succ k ih =>
    intro n w h1 h2 hk
    have HI := Hd.mk ih
    clear ih
    by_cases hn : n < 0
    · by_cases h10 : -10 < n
      · have HD := Hd.mk (dcm_lo hn h10)
        obtain ⟨x, hx⟩ : ∃ x, x = 48 + n.natAbs := ⟨_, rfl⟩
        rw [← hx] at HD
        have hc : ∀ W : World, (convert 70 9 (.slice (some ⟨W.heap.size, 0, none⟩) 1 1)).run Tryz.prog (W.alloc (.cells #[.int .u8 (48 - n)] 5)) = .ok (.string ⟨#[UInt8.ofNat x]⟩) (W.alloc (.cells #[.int .u8 (48 - n)] 5)) := fun W => one_conv W _ x (by omega) (by omega)
        have hx256 : x < 256 := by omega
        clear hx
        go_enter Tryz.func17, Tryz.ntmps17
        go_wp2_with fail
        go_ret
        exact ⟨⟨_, rfl, by rw [tx_append, tx_one hx256, HD.out]; rfl⟩, (Below.refl _ _).alloc (Nat.le_refl _) _⟩
      · have HD := Hd.mk (dcm_neg hn h10)
        have HL := Hd.mk (dcm_len (n := n.tdiv 10) (by rw [tdiv_neg hn]; omega))
        obtain ⟨x, hx⟩ : ∃ x, x = 48 + n.natAbs % 10 := ⟨_, rfl⟩
        rw [← hx] at HD
        have htm := tmod_neg hn
        have ht1 : -9 ≤ n.tmod 10 := by omega
        have ht2 : n.tmod 10 ≤ 0 := by omega
        have hc : ∀ W : World, (convert 70 9 (.slice (some ⟨W.heap.size, 0, none⟩) 1 1)).run Tryz.prog (W.alloc (.cells #[.int .u8 (48 - n.tmod 10)] 5)) = .ok (.string ⟨#[UInt8.ofNat x]⟩) (W.alloc (.cells #[.int .u8 (48 - n.tmod 10)] 5)) := fun W => one_conv W _ x (by omega) (by omega)
        have hx256 : x < 256 := by omega
        have htd := tdiv_neg hn
        have HC : Hd (∀ W, Calls Tryz.prog 17 #[.int .i64 (n.tdiv 10)] W fun e w' => TextOut (dcm (n.tdiv 10)) e ∧ Below W.heap.size W w') := ⟨fun W => HI.out _ W (by omega) (by omega) (by omega)⟩
        clear hx htm htd
        go_enter Tryz.func17, Tryz.ntmps17
        go_wp2_with fail
        refine (HC.out _).mono ?_
        rintro e w' ⟨⟨t, rfl, ht⟩, hb⟩
        have hsz : t.size ≤ 21 := by rw [← tx_length, ht]; exact HL.out
        have hs1 : ¬ 9223372036854775807 < t.size + 1 := by omega
        have HT := Hd.mk ht
        clear ht
        go_wp2_with fail
        go_ret
        exact ⟨⟨_, rfl, by rw [tx_append, tx_one hx256, HT.out, HD.out]⟩, (((Below.refl _ _).alloc (Nat.le_refl _) _).trans (hb.mono (by simp)))⟩
    · by_cases h10 : n < 10
      · have HD := Hd.mk (dcm_pos_lo hn h10)
        obtain ⟨x, hx⟩ : ∃ x, x = 48 + n.natAbs := ⟨_, rfl⟩
        rw [← hx] at HD
        have hc : ∀ W : World, (convert 70 9 (.slice (some ⟨W.heap.size, 0, none⟩) 1 1)).run Tryz.prog (W.alloc (.cells #[.int .u8 (48 + n)] 5)) = .ok (.string ⟨#[UInt8.ofNat x]⟩) (W.alloc (.cells #[.int .u8 (48 + n)] 5)) := fun W => one_conv W _ x (by omega) (by omega)
        have hx256 : x < 256 := by omega
        clear hx
        go_enter Tryz.func17, Tryz.ntmps17
        go_wp2_with fail
        go_ret
        exact ⟨⟨_, rfl, by rw [tx_one hx256, HD.out]⟩, (Below.refl _ _).alloc (Nat.le_refl _) _⟩
      · have HD := Hd.mk (dcm_pos hn h10)
        have HL := Hd.mk (dcm_len (n := n / 10) (by omega))
        obtain ⟨x, hx⟩ : ∃ x, x = 48 + n.natAbs % 10 := ⟨_, rfl⟩
        rw [← hx] at HD
        have hn0 : 0 ≤ n := by omega
        have hc : ∀ W : World, (convert 70 9 (.slice (some ⟨W.heap.size, 0, none⟩) 1 1)).run Tryz.prog (W.alloc (.cells #[.int .u8 (48 + n % 10)] 5)) = .ok (.string ⟨#[UInt8.ofNat x]⟩) (W.alloc (.cells #[.int .u8 (48 + n % 10)] 5)) := fun W => one_conv W _ x (by omega) (by omega)
        have hx256 : x < 256 := by omega
        have HC : Hd (∀ W z, z = n / 10 → Calls Tryz.prog 17 #[.int .i64 z] W fun e w' => TextOut (dcm (n / 10)) e ∧ Below W.heap.size W w') := ⟨fun W z hz => by rw [hz]; exact HI.out _ W (by omega) (by omega) (by omega)⟩
        have hz : Hd (IntKind.i64.wrap (n.tdiv 10) = n / 10) := ⟨by rw [Int.tdiv_eq_ediv_of_nonneg hn0]; exact IntWalk.i64_in _ (by omega)⟩
        have hXX : Hd (48 + n % 10 = (x : Int)) := ⟨by omega⟩
        have hcd : (convert 70 9 (.slice (some ⟨w.heap.size, 0, none⟩) 1 1)).run Tryz.prog (w.alloc (.cells #[.int .u8 (48 + n % 10)] 5)).drew = .ok (.string ⟨#[UInt8.ofNat x]⟩) (w.alloc (.cells #[.int .u8 (48 + n % 10)] 5)).drew := hc w.drew
        have e0 : n.tmod 10 = n % 10 := Int.tmod_eq_emod_of_nonneg hn0
        have e1 : IntKind.i64.wrap (n % 10) = n % 10 := IntWalk.i64_in _ (by omega)
        have e2 : IntKind.i64.wrap (48 + n % 10) = 48 + n % 10 := IntWalk.i64_in _ (by omega)
        have e3 : IntKind.u8.wrap (48 + n % 10) = 48 + n % 10 := by
          have : ∀ y : Int, IntKind.u8.wrap y = y % 256 := fun _ => rfl
          rw [this]; omega
        clear hx
        go_enter Tryz.func17, Tryz.ntmps17
        go_wp2_with fail
        go_region_with (go_at_call 17; ((with_reducible refine (HC.out _ _ hz.out).mono ?_); rintro e w' ⟨⟨t, rfl, ht⟩, hb⟩; (try have hcv : (convert 70 9 (.slice (some ⟨w.heap.size, 0, none⟩) 1 1)).run Tryz.prog w' = .ok (.string ⟨#[UInt8.ofNat x]⟩) w' := conv_after hb (show w.heap.size < (w.alloc (.cells #[.int .u8 (48 + n % 10)] 5)).heap.size by simp) (World.cell?_alloc_at (w := w) _ _ _ _ rfl) hXX.out hx256); (have hsz : t.size ≤ 21 := by rw [← tx_length, ht]; exact HL.out); (have hs1 : ¬ 9223372036854775807 < t.size + 1 := by omega); (have HT := Hd.mk ht); clear ht hsz))
        all_goals (
          go_wp2
          go_ret
          refine ⟨⟨_, rfl, by rw [tx_append, tx_one hx256, HT.out, HD.out]⟩, ?_⟩
          first
            | exact ((Below.drew (Below.refl _ w)).trans hb).alloc hb.size _
            | exact (Below.drew ((Below.refl _ w).alloc (Nat.le_refl _) _)).trans (hb.mono (by simp)))
/-- What a cell says. -/
theorem said_text (s : ByteArray) (n : Int) (w : World) : Calls Tryz.prog 10 #[.agg #[.int .i64 0, .string s, .int .i64 n]] w fun e w' => TextOut (tx s) e ∧ Below w.heap.size w w' := by
  go_enter Tryz.func10, Tryz.ntmps10
  go_wp2
  go_ret
  exact ⟨⟨s, rfl, rfl⟩, (Below.refl _ _).alloc (Nat.le_refl _) _⟩
set_option maxHeartbeats 1000000 in
set_option maxRecDepth 100000 in
theorem said_int (s : ByteArray) (n : Int) (w : World) (h1 : -9223372036854775808 ≤ n) (h2 : n ≤ 9223372036854775807) :
    Calls Tryz.prog 10 #[.agg #[.int .i64 1, .string s, .int .i64 n]] w fun e w' => TextOut (dcm n) e ∧ Below w.heap.size w w' := by
  have HC := Hd.mk (fun W => dec_any n.natAbs n W h1 h2 (Nat.le_refl _))
  go_enter Tryz.func10, Tryz.ntmps10
  go_wp2_with fail
  refine (HC.out _).mono ?_
  rintro e w' ⟨⟨t, rfl, ht⟩, hb⟩
  have HT := Hd.mk ht
  clear ht
  go_wp2_with fail
  go_ret
  exact ⟨⟨_, rfl, HT.out⟩, ((Below.refl _ _).alloc (Nat.le_refl _) _).trans (hb.mono (by simp))⟩
/-- What the reference takes a text's number to be. -/
def NumOut (r : Option Nat) (e : Ending) : Prop :=
  match r with
  | some b => e = .returned (.tuple #[.float .f64 b, .bool true])
  | none => ∃ x, e = .returned (.tuple #[x, .bool false])
set_option maxHeartbeats 1000000 in
set_option maxRecDepth 100000 in
theorem number_any (s : ByteArray) (w : World) (hG : Gl w) (hE : Er w) (hs : s.size ≤ 400) :
    Calls Tryz.prog 12 #[.string s] w fun e w' => NumOut (pf (tx s)) e ∧ Below w.heap.size w w' := by
  have HC := Hd.mk (spf_any s w hG hE hs)
  clear hG hE
  obtain ⟨R, hR⟩ : ∃ R, R = pf (tx s) := ⟨_, rfl⟩
  rw [← hR] at HC ⊢
  clear hR
  go_enter Tryz.func12, Tryz.ntmps12
  go_wp2_with fail
  refine HC.out.mono ?_
  rintro e w' ⟨hb, ho⟩
  cases R with
  | some b =>
    have he : e = .returned (.tuple #[.float .f64 b, .nilIface]) := ho
    subst he
    clear ho
    go_wp2_with fail
    go_quiet (fail)
    go_wp2
    go_ret2
    exact ⟨rfl, below_drewN hb _⟩
  | none =>
    obtain ⟨x, T, v, rfl⟩ := ho
    go_wp2_with fail
    go_quiet (fail)
    go_wp2
    go_ret2
    exact ⟨⟨_, rfl⟩, below_drewN hb _⟩
end Go.Proofs.YtknjgopapbemcaaGreatDoor
/- Walks: whether a text holds another one. -/
namespace Go.Proofs.YtknjgopapbemcaaGreatDoor
open Go.RowKit
set_option linter.unusedVariables false
set_option linter.unusedSimpArgs false
/-- x stands at place k of s. -/
def stands (s x : ByteArray) (k : Nat) : Bool := decide (k + x.size ≤ s.size) && decide (s.extract k (k + x.size) = x)
/-- s holds x. -/
def holdsB (s x : ByteArray) : Bool := (List.range (s.size + 1)).any (stands s x)
theorem seq_iff (a b : ByteArray) : (a.toList == b.toList) = decide (a = b) := by
  rw [Bool.eq_iff_iff, beq_iff_eq, decide_eq_true_iff]
  constructor
  · intro h
    rw [ByteArray.toList_eq, ByteArray.toList_eq] at h
    exact tx_inj (by unfold tx; rw [h])
  · rintro rfl; rfl
theorem holdsB_yes {s x : ByteArray} {k : Nat} (h : stands s x k = true) : holdsB s x = true := by
  unfold holdsB
  rw [List.any_eq_true]
  refine ⟨k, ?_, h⟩
  unfold stands at h
  rw [Bool.and_eq_true, decide_eq_true_iff] at h
  exact List.mem_range.2 (by omega)
theorem holdsB_no {s x : ByteArray} {k : Nat} (h : ∀ j, j < k → stands s x j = false) (hk : ¬ k + x.size ≤ s.size) : holdsB s x = false := by
  unfold holdsB
  rw [List.any_eq_false]
  intro j _
  rw [Bool.not_eq_true]
  rcases Nat.lt_or_ge j k with h1 | h1
  · exact h j h1
  · unfold stands; rw [decide_eq_false (by omega), Bool.false_and]
structure NoneYet (s x : ByteArray) (k : Nat) : Prop where
  out : ∀ j, j < k → stands s x j = false
theorem NoneYet.next {s x : ByteArray} {k : Nat} (h : NoneYet s x k) (hk : stands s x k = false) : NoneYet s x (k + 1) :=
  ⟨fun j hj => by
    rcases Nat.lt_or_ge j k with h1 | h1
    · exact h.out j h1
    · obtain rfl : j = k := by omega
      exact hk⟩
set_option maxHeartbeats 1000000 in
set_option maxRecDepth 100000 in
theorem has_any (s x : ByteArray) (w : World) (hs : s.size ≤ 1000000000) (hx : x.size ≤ 1000000000) :
    Calls Tryz.prog 14 #[.string s, .string x] w fun e w' => e = .returned (.bool (holdsB s x)) ∧ w = w' := by
  obtain ⟨R, hR⟩ : ∃ R, R = holdsB s x := ⟨_, rfl⟩
  rw [← hR]
  have HR := Hd.mk hR
  clear hR
  go_enter Tryz.func14, Tryz.ntmps14
  go_wp2
  go_loop [5] (fun v => ∃ k : Nat, v = .int .i64 k ∧ k ≤ s.size + 1 ∧ NoneYet s x k) (fun v => s.size + 1 - (intOf v).toNat)
  case atStart => exact ⟨0, rfl, Nat.zero_le _, ⟨fun j hj => by omega⟩⟩
  case round =>
    obtain ⟨k, rfl, hk, HN⟩ := hrel
    by_cases hin : k + x.size ≤ s.size
    · have hk1 : k ≤ k + x.size := by omega
      cases hst : stands s x k with
      | true =>
        have HS : Hd (R = true) := ⟨by rw [HR.out]; exact holdsB_yes hst⟩
        have heq : s.extract k (k + x.size) = x := by
          unfold stands at hst
          rw [Bool.and_eq_true, decide_eq_true_iff, decide_eq_true_iff] at hst
          exact hst.2
        clear hst
        go_wp2
        go_ret
        exact ⟨by rw [HS.out]; rfl, rfl⟩
      | false =>
        have HN2 := Hd.mk (HN.next hst)
        have heq : ((s.extract k (k + x.size)).toList == x.toList) = false := by
          rw [seq_iff]
          unfold stands at hst
          rw [decide_eq_true hin, Bool.true_and] at hst
          exact hst
        clear hst
        go_wp2
        go_round
        case rel => exact ⟨k + 1, by go_num, by omega, HN2.out⟩
        case measure => simp [intOf]; omega
    · have HS : Hd (R = false) := ⟨by rw [HR.out]; exact holdsB_no HN.out hin⟩
      go_wp2
      go_ret
      exact ⟨by rw [HS.out]; rfl, rfl⟩
set_option maxHeartbeats 1000000 in
set_option maxRecDepth 100000 in
theorem index_any (s x : ByteArray) (w : World) (hs : s.size ≤ 1000000000) (hx : x.size ≤ 1000000000) :
    Calls Tryz.prog 71 #[.string s, .string x] w fun e w' => (∃ k : Int, e = .returned (.int .i64 k) ∧ (decide (0 ≤ k) = holdsB s x)) ∧ w = w' := by
  obtain ⟨R, hR⟩ : ∃ R, R = holdsB s x := ⟨_, rfl⟩
  rw [← hR]
  have HR := Hd.mk hR
  clear hR
  go_enter Tryz.func71, Tryz.ntmps71
  go_wp2
  go_loop [5] (fun v => ∃ k : Nat, v = .int .i64 k ∧ k ≤ s.size + 1 ∧ NoneYet s x k) (fun v => s.size + 1 - (intOf v).toNat)
  case atStart => exact ⟨0, rfl, Nat.zero_le _, ⟨fun j hj => by omega⟩⟩
  case round =>
    obtain ⟨k, rfl, hk, HN⟩ := hrel
    by_cases hin : k + x.size ≤ s.size
    · have hk1 : k ≤ k + x.size := by omega
      cases hst : stands s x k with
      | true =>
        have HS : Hd (R = true) := ⟨by rw [HR.out]; exact holdsB_yes hst⟩
        have heq : s.extract k (k + x.size) = x := by
          unfold stands at hst
          rw [Bool.and_eq_true, decide_eq_true_iff, decide_eq_true_iff] at hst
          exact hst.2
        clear hst
        go_wp2
        go_ret
        exact ⟨⟨_, rfl, by rw [HS.out]; exact decide_eq_true (by omega)⟩, rfl⟩
      | false =>
        have HN2 := Hd.mk (HN.next hst)
        have heq : ((s.extract k (k + x.size)).toList == x.toList) = false := by
          rw [seq_iff]
          unfold stands at hst
          rw [decide_eq_true hin, Bool.true_and] at hst
          exact hst
        clear hst
        go_wp2
        go_round
        case rel => exact ⟨k + 1, by go_num, by omega, HN2.out⟩
        case measure => simp [intOf]; omega
    · have HS : Hd (R = false) := ⟨by rw [HR.out]; exact holdsB_no HN.out hin⟩
      go_wp2
      go_ret
      exact ⟨⟨_, rfl, by rw [HS.out]; rfl⟩, rfl⟩
set_option maxHeartbeats 1000000 in
set_option maxRecDepth 100000 in
theorem contains_any (s x : ByteArray) (w : World) (hs : s.size ≤ 1000000000) (hx : x.size ≤ 1000000000) :
    Calls Tryz.prog 49 #[.string s, .string x] w fun e w' => e = .returned (.bool (holdsB s x)) ∧ w = w' := by
  have HC := Hd.mk (index_any s x w hs hx)
  go_enter Tryz.func49, Tryz.ntmps49
  go_wp2_with fail
  refine HC.out.mono ?_
  rintro e w' ⟨⟨k, rfl, hk⟩, rfl⟩
  go_wp2_with fail
  go_ret
  exact ⟨rfl, rfl⟩
end Go.Proofs.YtknjgopapbemcaaGreatDoor
