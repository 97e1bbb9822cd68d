/- Dr: joined by merge.py for the claim. -/
import Derived.Test.YtknjgopapbemcaaGreatDoorXDq
import Derived.Test.YtknjgopapbemcaaGreatDoorXSj
import Derived.RegionTactic
import Derived.Deep.RegionWith
/- Walk of Go's own strconv.ParseFloat. -/
namespace Go.Proofs.YtknjgopapbemcaaGreatDoor
open Go.RowKit
set_option linter.unusedVariables false
set_option linter.unusedSimpArgs false
/-- The sentinels lie there. -/
structure Er (w : World) : Prop where
  c6 : ∃ T v, w.cell? ⟨6, 0, none⟩ = some (.iface T v)
  c7 : ∃ T v, w.cell? ⟨7, 0, none⟩ = some (.iface T v)
theorem Er.below {w w' : World} (h : Er w) (hz : 20 ≤ w.heap.size) (hb : Below w.heap.size w w') : Er w' := by
  obtain ⟨T, v, h6⟩ := h.c6
  obtain ⟨T2, v2, h7⟩ := h.c7
  exact ⟨⟨T, v, by rw [hb.cell (p := ⟨6, 0, none⟩) (show 6 < w.heap.size by omega)]; exact h6⟩, ⟨T2, v2, by rw [hb.cell (p := ⟨7, 0, none⟩) (show 7 < w.heap.size by omega)]; exact h7⟩⟩
set_option maxHeartbeats 1000000 in
set_option maxRecDepth 100000 in
theorem synt_any (fn s : ByteArray) (T : TypeId) (v : Value) (w : World) (hlim : s.size ≤ 281474976710656) (hz : 20 ≤ w.heap.size) (hv : w.cell? ⟨6, 0, none⟩ = some (.iface T v)) :
    Calls Tryz.prog 57 #[.string fn, .string s] w fun e w' => (∃ N, e = .returned (.pointer (some ⟨N, 0, none⟩))) ∧ Below w.heap.size w w' := by
  have hG : 6 < w.heap.size := by omega
  have hvd : w.drew.cell? ⟨6, 0, none⟩ = some (.iface T v) := hv
  go_enter Tryz.func57, Tryz.ntmps57
  go_wp2
  go_region_with (
    go_at_call 77
    refine (Tryz.stringslite_Clone s _ hlim).mono ?_
    rintro e w2 ⟨rfl, hbel⟩
    have hv2 : w2.cell? ⟨6, 0, none⟩ = some (.iface T v) := (hbel.cell (show (⟨6, 0, none⟩ : Addr).block < w.drew.heap.size from hG)).trans hvd)
  all_goals (
    go_wp2
    go_ret
    have hs2 : w.heap.size ≤ w2.heap.size := hbel.size
    exact ⟨⟨_, rfl⟩, ((Below.drew (Below.refl _ w)).trans hbel).alloc hs2 _⟩)
set_option maxHeartbeats 1000000 in
set_option maxRecDepth 100000 in
theorem rang_any (fn s : ByteArray) (T : TypeId) (v : Value) (w : World) (hlim : s.size ≤ 281474976710656) (hz : 20 ≤ w.heap.size) (hv : w.cell? ⟨7, 0, none⟩ = some (.iface T v)) :
    Calls Tryz.prog 58 #[.string fn, .string s] w fun e w' => (∃ N, e = .returned (.pointer (some ⟨N, 0, none⟩))) ∧ Below w.heap.size w w' := by
  have hG : 7 < w.heap.size := by omega
  have hvd : w.drew.cell? ⟨7, 0, none⟩ = some (.iface T v) := hv
  go_enter Tryz.func58, Tryz.ntmps58
  go_wp2
  go_region_with (
    go_at_call 77
    refine (Tryz.stringslite_Clone s _ hlim).mono ?_
    rintro e w2 ⟨rfl, hbel⟩
    have hv2 : w2.cell? ⟨7, 0, none⟩ = some (.iface T v) := (hbel.cell (show (⟨7, 0, none⟩ : Addr).block < w.drew.heap.size from hG)).trans hvd)
  all_goals (
    go_wp2
    go_ret
    have hs2 : w.heap.size ≤ w2.heap.size := hbel.size
    exact ⟨⟨_, rfl⟩, ((Below.drew (Below.refl _ w)).trans hbel).alloc hs2 _⟩)
theorem eql_err (a b : Int) (h : (a = 1 ∨ a = 2) ∧ (b = 1 ∨ b = 2)) (w : World) : (binOp .eql 75 (.iface 115 (.int .i64 a)) (.iface 115 (.int .i64 b))).run Tryz.prog w = .ok (.bool (decide (a = b))) w := by
  obtain ⟨h1, h2⟩ := h
  rcases h1 with rfl | rfl <;> rcases h2 with rfl | rfl <;> kernel_rfl
/-- Some error. -/
def IsErr (e : Ending) : Prop := ∃ T v, e = .returned (.iface T v)
set_option maxHeartbeats 1000000 in
set_option maxRecDepth 100000 in
theorem toErr_any (fn s : ByteArray) (k : Int) (b1 b2 : Int) (w : World) (hk : k = 1 ∨ k = 2) (hlim : s.size ≤ 281474976710656) (hz : 20 ≤ w.heap.size) (hE : Er w) :
    Calls Tryz.prog 43 #[.string fn, .string s, .int .i64 b1, .int .i64 b2, .iface 115 (.int .i64 k)] w fun e w' => IsErr e ∧ Below w.heap.size w w' := by
  obtain ⟨T, v, h6⟩ := hE.c6
  obtain ⟨T2, v2, h7⟩ := hE.c7
  have H6 := Hd.mk h6
  have H7 := Hd.mk h7
  clear h6 h7 hE
  have e11 := eql_err 1 1 (by omega)
  have e12 := eql_err 1 2 (by omega)
  have e22 := eql_err 2 2 (by omega)
  rcases hk with rfl | rfl
  · go_enter Tryz.func43, Tryz.ntmps43
    go_wp2_with (go_at_call 58; ((with_reducible refine (rang_any _ _ T2 v2 _ hlim hz H7.out).mono ?_); rintro e w' ⟨⟨n, rfl⟩, hb⟩))
    go_ret
    exact ⟨⟨_, _, rfl⟩, hb⟩
  · go_enter Tryz.func43, Tryz.ntmps43
    go_wp2_with (go_at_call 57; ((with_reducible refine (synt_any _ _ T v _ hlim hz H6.out).mono ?_); rintro e w' ⟨⟨n, rfl⟩, hb⟩))
    go_ret
    exact ⟨⟨_, _, rfl⟩, hb⟩
set_option maxHeartbeats 1000000 in
set_option maxRecDepth 100000 in
theorem pfx_any (s : ByteArray) (w : World) (hG : Gl w) (hs : s.size ≤ 400) :
    Calls Tryz.prog 56 #[.string s, .int .i64 64] w fun e w' => AtOut (tx s) e ∧ Below w.heap.size w w' := by
  have HC := Hd.mk (at_any s w hG hs)
  clear hG
  go_enter Tryz.func56, Tryz.ntmps56
  go_wp2_with fail
  refine HC.out.mono ?_
  rintro e w' ⟨⟨x, n, er, bad, rfl, h1, h2, h3⟩, hb⟩
  have H := Hd.mk (And.intro h1 (And.intro h2 h3))
  clear h1 h2 h3
  go_wp2_with fail
  go_ret3
  exact ⟨⟨x, n, er, bad, rfl, H.out.1, H.out.2.1, H.out.2.2⟩, hb⟩
set_option maxHeartbeats 1000000 in
set_option maxRecDepth 100000 in
theorem ipf_any (s : ByteArray) (w : World) (hG : Gl w) (hs : s.size ≤ 400) :
    Calls Tryz.prog 42 #[.string s, .int .i64 64] w fun e w' => (∃ (x : Value) (er : Value), e = .returned (.tuple #[x, er]) ∧ ((∃ b, pf (tx s) = some b ∧ x = .float .f64 b ∧ er = .nilIface) ∨ (pf (tx s) = none ∧ (er = errV 1 ∨ er = errV 2)))) ∧ Below w.heap.size w w' := by
  have HC := Hd.mk (pfx_any s w hG hs)
  clear hG
  go_enter Tryz.func42, Tryz.ntmps42
  go_wp2_with fail
  refine HC.out.mono ?_
  rintro e w' ⟨⟨x, n, er, bad, rfl, h1, h2, h3⟩, hb⟩
  have H := Hd.mk (And.intro h1 (And.intro h2 h3))
  clear h1 h2 h3
  by_cases hn : n = (s.size : Int)
  · have hnb : (n != (s.size : Int)) = false := by rw [bne, beq_iff_eq.2 hn]; rfl
    have HN : Hd (n = ((tx s).length : Int)) := ⟨by rw [tx_length]; exact hn⟩
    clear hn
    go_wp2_with fail
    go_ret2
    refine ⟨⟨_, _, rfl, ?_⟩, hb⟩
    cases bad
    · exact .inl ⟨x, H.out.1.yes HN.out, rfl, H.out.2.1 rfl⟩
    · exact .inr ⟨H.out.1.yes HN.out, H.out.2.2 rfl⟩
  · have hnb : (n != (s.size : Int)) = true := by rw [bne, beq_eq_false_iff_ne.2 hn]; rfl
    have HN : Hd (n ≠ ((tx s).length : Int)) := ⟨by rw [tx_length]; exact hn⟩
    clear hn
    go_wp2_with fail
    go_ret2
    exact ⟨⟨_, _, rfl, .inr ⟨H.out.1.no HN.out, .inr rfl⟩⟩, hb⟩
theorem neq_nil (a : Int) (h : a = 1 ∨ a = 2) (w : World) : (binOp .neq 75 (.iface 115 (.int .i64 a)) .nilIface).run Tryz.prog w = .ok (.bool true) w := by
  rcases h with rfl | rfl <;> kernel_rfl
set_option maxHeartbeats 1000000 in
set_option maxRecDepth 100000 in
/-- Go's ParseFloat reads as the light one does. -/
theorem spf_any (s : ByteArray) (w : World) (hG : Gl w) (hE : Er w) (hs : s.size ≤ 400) :
    Calls Tryz.prog 24 #[.string s, .int .i64 64] w fun e w' => Below w.heap.size w w' ∧ PfOut (pf (tx s)) e := by
  have HC := Hd.mk (ipf_any s w hG hs)
  have HE := Hd.mk hE
  have HG := Hd.mk hG
  clear hG hE
  obtain ⟨R, hR⟩ : ∃ R, R = pf (tx s) := ⟨_, rfl⟩
  rw [← hR] at HC ⊢
  clear hR
  go_enter Tryz.func24, Tryz.ntmps24
  go_wp2_with fail
  refine HC.out.mono ?_
  rintro e w' ⟨⟨x, er, rfl, h1⟩, hb⟩
  rcases h1 with ⟨b, h1, rfl, rfl⟩ | ⟨h1, h2⟩
  · have H1 := Hd.mk h1
    clear h1
    go_wp2_with fail
    go_ret2
    exact ⟨hb, by rw [H1.out]; exact rfl⟩
  · obtain ⟨k, hk, rfl⟩ : ∃ k : Int, (k = 1 ∨ k = 2) ∧ er = .iface 115 (.int .i64 k) := by
      rcases h2 with h | h
      · exact ⟨1, .inl rfl, h⟩
      · exact ⟨2, .inr rfl, h⟩
    have H1 := Hd.mk h1
    have hq := neq_nil k hk
    have hz : 20 ≤ w'.heap.size := Nat.le_trans HG.out.sz hb.size
    have HT : Hd (∀ fn : ByteArray, ∀ b1 b2, Calls Tryz.prog 43 #[.string fn, .string s, .int .i64 b1, .int .i64 b2, .iface 115 (.int .i64 k)] w' fun e w'' => IsErr e ∧ Below w'.heap.size w' w'') := ⟨fun fn b1 b2 => toErr_any fn s k b1 b2 w' hk (by omega) hz (HE.out.below HG.out.sz hb)⟩
    clear h1 h2 hk hz
    go_wp2_with fail
    refine (HT.out _ _ _).mono ?_
    rintro e w3 ⟨⟨T, v, rfl⟩, hb3⟩
    go_wp2_with fail
    go_ret2
    exact ⟨hb.trans (hb3.mono hb.size), by rw [H1.out]; exact ⟨_, _, _, rfl⟩⟩
end Go.Proofs.YtknjgopapbemcaaGreatDoor
