/- Li: joined by merge.py for the claim. -/
import Derived.Test.YtknjgopapbemcaaGreatDoorXLgLh
import Derived.Test.YtknjgopapbemcaaGreatDoorXLcLe
/- Walk of lightstrconv's underscores, and of FormatUint and newDecimal. -/
namespace Go.Proofs.YtknjgopapbemcaaGreatDoor
open Go.RowKit
set_option linter.unusedVariables false
set_option linter.unusedSimpArgs false
def usc (l : List Nat) : Bool := if 95 ∈ l then uOK l else true
structure UsInv (l : List Nat) (k : Nat) : Prop where
  no : 95 ∉ l.take k
theorem UsInv.next {l : List Nat} {k : Nat} (h : UsInv l k) (hk : k < l.length) (hb : bt l k ≠ 95) : UsInv l (k + 1) := by
  refine ⟨?_⟩
  rw [take_snoc_bt hk, List.mem_append, List.mem_singleton]
  rintro (h1 | h1)
  · exact h.no h1
  · exact hb h1.symm
theorem us_yes {l : List Nat} {k : Nat} (hk : k < l.length) (hb : bt l k = 95) : usc l = uOK l := by
  unfold usc
  rw [if_pos]
  rw [← hb]
  have := List.mem_of_mem_drop (l := l) (i := k) (a := bt l k) (by rw [drop_bt hk]; exact List.mem_cons_self ..)
  exact this
theorem UsInv.done {l : List Nat} {k : Nat} (h : UsInv l k) (hk : l.length ≤ k) : usc l = true := by
  have := h.no
  rw [List.take_of_length_le hk] at this
  unfold usc; rw [if_neg this]
set_option maxHeartbeats 1000000 in
theorem us_any (s : ByteArray) (w : World) (hs : s.size ≤ 1000) :
    Calls Tryz.prog 68 #[.string s] w fun e w' => e = .returned (.bool (usc (tx s))) ∧ w' = w := by
  go_enter Tryz.func68, Tryz.ntmps68
  go_wp2_with fail
  go_loop [3] (fun v3 => ∃ k : Nat, v3 = .int .i64 k ∧ k ≤ s.size ∧ UsInv (tx s) k) (fun v => s.size - (intOf v).toNat)
  case atStart => exact ⟨0, rfl, Nat.zero_le _, ⟨by simp⟩⟩
  case round =>
    obtain ⟨k, rfl, hk, HI⟩ := hrel
    by_cases hlt : k < s.size
    · have hx := bt_get s k hlt
      have HX := Hd.mk hx
      clear hx
      by_cases h95 : s[k].toNat = 95
      · have hb : ((s[k].toNat : Int) == 95) = true := by simp; omega
        go_wp2_with fail
        refine (uok_any s _ hs).mono ?_
        rintro e' w' ⟨rfl, rfl⟩
        go_wp2
        go_ret
        exact ⟨ret_b (us_yes (by rw [tx_length]; exact hlt) (by rw [← HX.out]; exact h95)).symm, rfl⟩
      · have hb : ((s[k].toNat : Int) == 95) = false := by simp; omega
        go_wp2
        go_round
        case rel => exact ⟨k + 1, by go_num, by omega, HI.next (by rw [tx_length]; exact hlt) (by rw [← HX.out]; exact h95)⟩
        case measure => simp [intOf]; omega
    · go_wp2
      go_ret
      exact ⟨ret_b (HI.done (by rw [tx_length]; omega)).symm, rfl⟩
end Go.Proofs.YtknjgopapbemcaaGreatDoor
