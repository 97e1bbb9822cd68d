/- Lp: joined by merge.py for the claim. -/
import Derived.Test.YtknjgopapbemcaaGreatDoorXLjLl
import Derived.Test.YtknjgopapbemcaaGreatDoorXFaFd
import Derived.Test.YtknjgopapbemcaaGreatDoorXMgMh
import Derived.Test.YtknjgopapbemcaaGreatDoorXLcLe
/- The end of lightstrconv's read: trim of a decimal without digits; what the decimals stand for. -/
namespace Go.Proofs.YtknjgopapbemcaaGreatDoor
open Go.RowKit
set_option linter.unusedVariables false
set_option linter.unusedSimpArgs false

/-- What a number read lies as. -/
structure RdOut (w' : World) (g : Nat) (n : Num) : Prop where
  val : ((∃ A c dp, w'.heap[g]? = some (.cells #[.slice A 0 c, .int .i64 dp] 151 (0, 0))) ∧ mag n = 0) ∨ ∃ ds dp N M, Dc w' g ds dp ∧ Gd 5100 300000 ds dp ∧ Val ds dp 0 N M ∧ 0 < M ∧ rung N M = mag n

theorem Dg.vd {ds : List Nat} (h : Dg 10 ds) {L : Nat} (hl : 0 < ds.length) (hL : ds.length ≤ L) : Vd L ds := by
  refine ⟨hl, hL, fun i => ?_, ?_⟩
  · rcases Nat.lt_or_ge i ds.length with hi | hi
    · rw [dg_lt hi]; exact h.lt _ (List.getElem_mem hi)
    · rw [dg_end hi]; omega
  · rcases h.first with h1 | h1
    · rw [h1] at hl; simp at hl
    · exact h1

theorem rd_dec {w' : World} {g : Nat} {ds : List Nat} {frac : Nat} {e dp : Int} {und : Bool} (h : Dg 10 ds) (hl : 0 < ds.length) (hL : ds.length ≤ 1000) (hf : frac ≤ 1000) (he1 : -99999 ≤ e) (he2 : e ≤ 99999)
    (hdp : dp = (ds.length : Int) - frac + e) (hd : Dc w' g (trimD ds ds.length) (trimP (trimD ds ds.length) dp)) : RdOut w' g ⟨false, ds, frac, e, und⟩ := by
  have hv := h.vd hl (L := 5100) (by omega)
  rw [trimP_vd (trimD_vd hv).1] at hd
  refine ⟨.inr ⟨_, _, num (dn ds) (e - frac), den (e - frac), hd, gd_of hv dp (by omega) (by omega), ?_, den_pos _, ?_⟩⟩
  · have e1 := val_trim hv dp
    rw [show dp - (ds.length : Int) = e - frac by omega] at e1
    unfold Val
    simpa using e1
  · show _ = mag _
    unfold mag num den
    rw [if_neg (by simp)]
theorem rd_dec0 {w' : World} {g c : Nat} {A : Option Addr} {dp : Int} {frac : Nat} {e : Int} {und : Bool} (hg : w'.heap[g]? = some (.cells #[.slice A 0 c, .int .i64 dp] 151 (0, 0))) : RdOut w' g ⟨false, [], frac, e, und⟩ := by
  refine ⟨.inl ⟨⟨A, c, dp, hg⟩, ?_⟩⟩
  unfold mag
  rw [if_neg (by simp), dn_nil, Nat.zero_mul, rung_zero]

theorem mag_hex {ds : List Nat} {frac : Nat} {x e : Int} {und : Bool} (hxx : x = hxs ds frac) : mag ⟨true, ds, frac, e, und⟩ = rg (hm ds) (x + e) := by
  unfold mag rg hx
  rw [if_pos rfl, hxx]; rfl
theorem rg_zero (e : Int) : rg 0 e = 0 := by unfold rg; rw [Nat.zero_mul, rung_zero]
theorem rg_small {m : Nat} {e : Int} (hm : m < 18446744073709551616) (he : e < -1300) : rg m e = 0 := by
  unfold rg
  refine rung_tiny (Nat.two_pow_pos _) ?_
  have e1 : e.toNat = 0 := by omega
  obtain ⟨k, hk⟩ : ∃ k, (-e).toNat = k + 1301 := ⟨(-e).toNat - 1301, by omega⟩
  rw [e1, hk, Nat.pow_zero, Nat.mul_one]
  have hS := S_eq
  have hkS := kS_eq
  generalize kS = K at *
  rw [hS]
  have h1 : m * 2 ^ K < 2 ^ 64 * 2 ^ K := Nat.mul_lt_mul_of_pos_right hm (Nat.two_pow_pos _)
  rw [← Nat.pow_add] at h1
  have h2 : 2 ^ (64 + K + 1) ≤ 2 ^ (k + 1301) := two_pow_le (by omega)
  rw [Nat.pow_succ] at h2
  omega
theorem rg_great {m : Nat} {e : Int} (hm : 0 < m) (he : 1100 ≤ e) : rg m e = infR := by
  unfold rg
  have e1 : (-e).toNat = 0 := by omega
  rw [e1, Nat.pow_zero]
  obtain ⟨j, hj⟩ : ∃ j, j = 1024 := ⟨_, rfl⟩
  refine rung_inf Nat.one_pos hj ?_
  rw [Nat.mul_one]
  exact Nat.le_trans (two_pow_le (by omega)) (Nat.le_mul_of_pos_left _ hm)

/-- A hexadecimal number: its decimal, moved. -/
theorem rd_hex {w' : World} {g : Nat} {m : Nat} {ds : List Nat} {frac : Nat} {x e k : Int} {und : Bool} (hxx : x = hxs ds frac) (hmm : m = hm ds) (hm0 : 0 < m) (hm64 : m < 18446744073709551616)
    (hk1 : -1300 ≤ k) (hk2 : k ≤ 1100) (hk : k = x + e ∨ (1100 < x + e ∧ k = 1100))
    (hd : Dc w' g (shf 40 k (trimD (fd m) (fd m).length) (trimP (trimD (fd m) (fd m).length) (fd m).length)).1 (shf 40 k (trimD (fd m) (fd m).length) (trimP (trimD (fd m) (fd m).length) (fd m).length)).2)
    (hg : Gd 5020 2020 (shf 40 k (trimD (fd m) (fd m).length) (trimP (trimD (fd m) (fd m).length) (fd m).length)).1 (shf 40 k (trimD (fd m) (fd m).length) (trimP (trimD (fd m) (fd m).length) (fd m).length)).2) :
    RdOut w' g ⟨true, ds, frac, e, und⟩ := by
  obtain ⟨h1, h2⟩ := nd_val hm64 hm0 k
  have hv := val_shf 40 k 20 _ _ k h1.vd (by omega) (by omega) (by omega) h2
  rw [Int.sub_self] at hv
  refine ⟨.inr ⟨_, _, _, _, hd, ⟨hg.vd.wide (by omega), by have := hg.lo; omega, by have := hg.hi; omega, hg.last⟩, hv, Nat.two_pow_pos _, ?_⟩⟩
  rw [mag_hex hxx, ← hmm]
  show rg m k = _
  rcases hk with rfl | ⟨h3, rfl⟩
  · rfl
  · rw [rg_great hm0 (by omega), rg_great hm0 (by omega)]

set_option maxHeartbeats 1000000 in
set_option maxRecDepth 100000 in
theorem trim_empty (g c : Nat) (A : Option Addr) (dp : Int) (w : World) (hg : w.heap[g]? = some (.cells #[.slice A 0 c, .int .i64 dp] 151 (0, 0))) :
    Calls Tryz.prog 83 #[.pointer (some ⟨g, 0, none⟩)] w fun e w' => e = .returned (.pointer (some ⟨g, 0, none⟩)) ∧ w'.heap[g]? = some (.cells #[.slice A 0 c, .int .i64 0] 151 (0, 0)) ∧ Bel g w w' := by
  go_enter Tryz.func83, Tryz.ntmps83
  go_wp2
  go_loopg [] 0 (fun m wr => wr = w)
  case atStart => rfl
  case round =>
    subst hrel
    have h0 := at_c0 hg
    have h1 := at_c1 hg
    have hf := free_c hg
    have HG := Hd.mk hg
    clear hg
    go_wp2_with fail
    go_quiet (fail)
    go_wp2
    go_ret
    exact ⟨rfl, set_c1 (by rw [heap_drewN]; exact HG.out), ((Bel.refl _ _).drewN _).set _ _⟩
end Go.Proofs.YtknjgopapbemcaaGreatDoor
