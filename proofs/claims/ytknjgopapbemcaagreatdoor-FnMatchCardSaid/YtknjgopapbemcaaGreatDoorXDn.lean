/- Dn: joined by merge.py for the claim. -/
import Derived.Test.YtknjgopapbemcaaGreatDoorXDlDm
import Derived.ScopeJumps
/- The walk of floatBits: its plain part; jumps out of a scope, walked on where they land. -/
namespace Go
/-- As Q; a goto goes on behind its label, and jumps no more. -/
def Exit.inl (P : Program) (c : Code) (Q : Exit → Act → World → Prop) : Exit → Act → World → Prop
  | .goto l, a, w => ∃ rest, findLabel c l = some rest ∧ rest.wp P (Exit.noGoto Q) a w
  | e, a, w => Q e a w
theorem wp_scope_inline {P : Program} {a : Act} {w : World} {Q : Exit → Act → World → Prop} {c : Code} (first : ∀ c', c' = c → c.wp P (Exit.inl P c' Q) a w) : (Code.scope c).wp P Q a w := by
  intro b k cs
  have hg : ∀ l rest, findLabel c l = some rest → gotoIn l (.inScope c :: k) = some (.code rest :: .inScope c :: k) := fun l rest hf => by simp [gotoIn, hf]
  obtain ⟨e, a₁, w₁, hq, harr⟩ := first c rfl b (.inScope c :: k) cs
  cases e with
  | normal => exact ⟨.normal, a₁, w₁, hq, .head step_scope (Steps.trans harr (.one step_inScope))⟩
  | exit id => exact ⟨.exit id, a₁, w₁, hq, fun k' hk => .head step_scope (harr k' (by simp [exitTo, hk]))⟩
  | goto l' =>
    obtain ⟨rest, hf, hwp⟩ := hq
    obtain ⟨e₂, a₂, w₂, hq₂, harr₂⟩ := hwp b (.inScope c :: k) cs
    have hst := harr _ (hg _ _ hf)
    cases e₂ with
    | normal => exact ⟨.normal, a₂, w₂, hq₂, .head step_scope (Steps.trans hst (Steps.trans harr₂ (.one step_inScope)))⟩
    | exit id => exact ⟨.exit id, a₂, w₂, hq₂, fun k' hk => .head step_scope (Steps.trans hst (harr₂ k' (by simp [exitTo, hk])))⟩
    | goto l => exact hq₂.elim
    | ret => exact ⟨_, a₂, w₂, hq₂, .of_steps (.head step_scope hst) harr₂⟩
    | panic ch => exact ⟨_, a₂, w₂, hq₂, .of_steps (.head step_scope hst) harr₂⟩
    | outgrown => exact ⟨_, a₂, w₂, hq₂, .of_steps (.head step_scope hst) harr₂⟩
  | ret => exact ⟨_, a₁, w₁, hq, .of_steps (.one step_scope) harr⟩
  | panic ch => exact ⟨_, a₁, w₁, hq, .of_steps (.one step_scope) harr⟩
  | outgrown => exact ⟨_, a₁, w₁, hq, .of_steps (.one step_scope) harr⟩
end Go
namespace Go.Proofs.YtknjgopapbemcaaGreatDoor
open Go.RowKit
set_option linter.unusedVariables false
set_option linter.unusedSimpArgs false
/-- N / M is 2^f at least. -/
def XL (N M : Nat) (f : Int) : Prop := M * 2 ^ f.toNat ≤ N * 2 ^ (-f).toNat
theorem XL.mono {N M : Nat} {f f' : Int} (h : XL N M f) (hf : f' ≤ f) : XL N M f' := by
  unfold XL at *
  have h1 := le_shift (x' := f'.toNat + (f - f').toNat) (y' := (-f').toNat) h (by omega)
  refine Nat.le_trans (Nat.mul_le_mul_left _ (two_pow_le (by omega))) h1
set_option exponentiation.threshold 4000 in
theorem crude {K c : Nat} (hK : K = 10 ^ 799) (hc : c ≤ 5000) : K ≤ 2 * (K - c) := by
  have h1 : 10 ^ 5 ≤ 10 ^ 799 := Nat.pow_le_pow_right (by omega) (by omega)
  have h2 : (10 : Nat) ^ 5 = 100000 := rfl
  rw [← hK, h2] at h1
  omega
set_option exponentiation.threshold 4000 in
/-- What is known is half of all, at least. -/
theorem ap_half {K c a b N M : Nat} {e : Int} {tr : Bool} (h : Ap K c a b e N M tr) (hK : K = 10 ^ 799) (hc : c ≤ 5000) : N * b * 2 ^ (-e).toNat ≤ a * M * 2 ^ (e.toNat + 1) := by
  have hc2 := crude hK hc
  have hKp : 0 < K := by rw [hK]; exact Nat.pow_pos (by omega)
  refine Nat.le_of_mul_le_mul_right (c := K) ?_ hKp
  calc N * b * 2 ^ (-e).toNat * K ≤ N * b * 2 ^ (-e).toNat * (2 * (K - c)) := Nat.mul_le_mul_left _ hc2
    _ = N * b * (K - c) * 2 ^ (-e).toNat * 2 := by ac_rfl
    _ ≤ a * M * K * 2 ^ e.toNat * 2 := Nat.mul_le_mul_right _ h.hi
    _ = a * M * 2 ^ (e.toNat + 1) * K := by rw [Nat.pow_succ]; ac_rfl
theorem ap_big {K c a b N M z : Nat} {e : Int} {tr : Bool} (h : Ap K c a b e N M tr) (hK : K = 10 ^ 799) (hc : c ≤ 5000) (hM : 0 < M) (hx : XL N M (e - z)) : b ≤ a * 2 ^ (z + 1) := by
  have h1 := ap_half h hK hc
  have h2 : M * 2 ^ e.toNat ≤ N * 2 ^ ((-e).toNat + z) := le_shift hx (by omega)
  refine Nat.le_of_mul_le_mul_right (c := M * 2 ^ e.toNat) ?_ (Nat.mul_pos hM (Nat.two_pow_pos _))
  calc b * (M * 2 ^ e.toNat) ≤ b * (N * 2 ^ ((-e).toNat + z)) := Nat.mul_le_mul_left _ h2
    _ = N * b * 2 ^ (-e).toNat * 2 ^ z := by rw [Nat.pow_add]; ac_rfl
    _ ≤ a * M * 2 ^ (e.toNat + 1) * 2 ^ z := Nat.mul_le_mul_right _ h1
    _ = a * 2 ^ (z + 1) * (M * 2 ^ e.toNat) := by rw [Nat.pow_add, Nat.pow_add]; ac_rfl
theorem ap_XL {K c a b N M z : Nat} {e : Int} {tr : Bool} (h : Ap K c a b e N M tr) (hb : 0 < b) (hx : b ≤ a * 2 ^ z) : XL N M (e - z) := by
  have h1 : M * 2 ^ e.toNat ≤ N * 2 ^ ((-e).toNat + z) := by
    refine Nat.le_of_mul_le_mul_left (?_ : b * _ ≤ b * _) hb
    calc b * (M * 2 ^ e.toNat) ≤ a * 2 ^ z * (M * 2 ^ e.toNat) := Nat.mul_le_mul_right _ hx
      _ = a * M * 2 ^ e.toNat * 2 ^ z := by ac_rfl
      _ ≤ N * b * 2 ^ (-e).toNat * 2 ^ z := Nat.mul_le_mul_right _ h.lo
      _ = b * (N * 2 ^ ((-e).toNat + z)) := by rw [Nat.pow_add]; ac_rfl
  exact le_shift h1 (by omega)
theorem XL_lt {N M j : Nat} {f : Int} (hM : 0 < M) (h : XL N M f) (hx : N < 2 ^ j * M) : f < j := by
  apply Int.lt_of_not_ge
  intro hge
  have h1 : M * 2 ^ j ≤ N * 2 ^ 0 := by
    have := XL.mono h hge
    exact le_shift this (by omega)
  rw [Nat.pow_zero, Nat.mul_one, Nat.mul_comm] at h1
  omega
/-- A doubling that stays below 1 does not go too far. -/
theorem ap_left {K c a b N M k : Nat} {e f : Int} {tr : Bool} (h : Ap K c a b e N M tr) (hK : K = 10 ^ 799) (hc : c ≤ 5000) (hM : 0 < M) (hb : 0 < b) (hlt : a * 2 ^ k < b) (hx : XL N M f) : f + k ≤ e := by
  apply Int.le_of_not_gt
  intro hgt
  have h1 := ap_half h hK hc
  have h2 : M * 2 ^ (e.toNat + 1) ≤ N * 2 ^ ((-e).toNat + k) := le_shift (XL.mono hx (f' := e + 1 - k) (by omega)) (by omega)
  have h3 : a * 2 ^ k * (M * 2 ^ (e.toNat + 1)) < b * (M * 2 ^ (e.toNat + 1)) := Nat.mul_lt_mul_of_pos_right hlt (Nat.mul_pos hM (Nat.two_pow_pos _))
  have h4 : b * (M * 2 ^ (e.toNat + 1)) ≤ a * 2 ^ k * (M * 2 ^ (e.toNat + 1)) := by
    calc b * (M * 2 ^ (e.toNat + 1)) ≤ b * (N * 2 ^ ((-e).toNat + k)) := Nat.mul_le_mul_left _ h2
      _ = N * b * 2 ^ (-e).toNat * 2 ^ k := by rw [Nat.pow_add]; ac_rfl
      _ ≤ a * M * 2 ^ (e.toNat + 1) * 2 ^ k := Nat.mul_le_mul_right _ h1
      _ = a * 2 ^ k * (M * 2 ^ (e.toNat + 1)) := by ac_rfl
  omega
end Go.Proofs.YtknjgopapbemcaaGreatDoor
