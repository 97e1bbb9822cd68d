/- Da Db: joined by merge.py for the claim. -/
import Derived.Test.YtknjgopapbemcaaGreatDoorXGd
/- Memory of internal/strconv's decimal: 800 bytes, two numbers, two flags. Its small functions. -/
namespace Go.Proofs.YtknjgopapbemcaaGreatDoor
open Go.RowKit
set_option linter.unusedVariables false
set_option linter.unusedSimpArgs false
structure RwC (cs : Array Value) (f : Nat → Nat) (nd dp : Int) (neg tr : Bool) : Prop where
  sz : cs.size = 804
  d : ∀ i, i < 800 → cs[i]? = some (.int .u8 (f i : Nat))
  nd : cs[800]? = some (.int .i64 nd)
  dp : cs[801]? = some (.int .i64 dp)
  ng : cs[802]? = some (.bool neg)
  tr : cs[803]? = some (.bool tr)
/-- A decimal at block g: its bytes, the number of digits, the point, the sign, whether digits are lost. -/
structure Rw (w : World) (g : Nat) (f : Nat → Nat) (nd dp : Int) (neg tr : Bool) : Prop where
  ex : ∃ cs, w.heap[g]? = some (.cells cs 173 (0, 0)) ∧ RwC cs f nd dp neg tr
theorem Rw.cell {w : World} {g : Nat} {f : Nat → Nat} {nd dp : Int} {neg tr : Bool} (h : Rw w g f nd dp neg tr) (i : Nat) (hi : i < 800) : w.cell? ⟨g, i, none⟩ = some (.int .u8 (f i : Nat)) := by
  obtain ⟨cs, hg, hc⟩ := h.ex
  rw [cell_of_row w g i cs 173 (0, 0) hg]; exact hc.d i hi
theorem Rw.cnd {w : World} {g : Nat} {f : Nat → Nat} {nd dp : Int} {neg tr : Bool} (h : Rw w g f nd dp neg tr) : w.cell? ⟨g, 800, none⟩ = some (.int .i64 nd) := by
  obtain ⟨cs, hg, hc⟩ := h.ex
  rw [cell_of_row w g 800 cs 173 (0, 0) hg]; exact hc.nd
theorem Rw.cdp {w : World} {g : Nat} {f : Nat → Nat} {nd dp : Int} {neg tr : Bool} (h : Rw w g f nd dp neg tr) : w.cell? ⟨g, 801, none⟩ = some (.int .i64 dp) := by
  obtain ⟨cs, hg, hc⟩ := h.ex
  rw [cell_of_row w g 801 cs 173 (0, 0) hg]; exact hc.dp
theorem Rw.cng {w : World} {g : Nat} {f : Nat → Nat} {nd dp : Int} {neg tr : Bool} (h : Rw w g f nd dp neg tr) : w.cell? ⟨g, 802, none⟩ = some (.bool neg) := by
  obtain ⟨cs, hg, hc⟩ := h.ex
  rw [cell_of_row w g 802 cs 173 (0, 0) hg]; exact hc.ng
theorem Rw.ctr {w : World} {g : Nat} {f : Nat → Nat} {nd dp : Int} {neg tr : Bool} (h : Rw w g f nd dp neg tr) : w.cell? ⟨g, 803, none⟩ = some (.bool tr) := by
  obtain ⟨cs, hg, hc⟩ := h.ex
  rw [cell_of_row w g 803 cs 173 (0, 0) hg]; exact hc.tr
theorem Rw.fz {w : World} {g : Nat} {f : Nat → Nat} {nd dp : Int} {neg tr : Bool} (h : Rw w g f nd dp neg tr) (i : Nat) : w.frozen? ⟨g, i, none⟩ = false := by
  obtain ⟨cs, hg, hc⟩ := h.ex
  exact free_c hg i
theorem Rw.lt {w : World} {g : Nat} {f : Nat → Nat} {nd dp : Int} {neg tr : Bool} (h : Rw w g f nd dp neg tr) : g < w.heap.size := by
  obtain ⟨cs, hg, hc⟩ := h.ex
  exact lt_of_block hg
theorem set_at (cs : Array Value) (i j : Nat) (x : Value) : (cs.setIfInBounds i x)[j]? = if i = j ∧ j < cs.size then some x else cs[j]? := by
  by_cases h : i = j
  · subst h
    by_cases h2 : i < cs.size
    · rw [if_pos ⟨rfl, h2⟩]; simp [h2]
    · rw [if_neg (fun h => h2 h.2)]; simp [h2]
  · rw [if_neg (fun h2 => h h2.1), Array.getElem?_setIfInBounds_ne h]
def upd (f : Nat → Nat) (i x : Nat) : Nat → Nat := fun j => if j = i then x else f j
theorem Rw.setD {w : World} {g : Nat} {f : Nat → Nat} {nd dp : Int} {neg tr : Bool} (h : Rw w g f nd dp neg tr) (i x : Nat) (hi : i < 800) : Rw (w.setCell ⟨g, i, none⟩ (.int .u8 (x : Int))) g (upd f i x) nd dp neg tr := by
  obtain ⟨cs, hg, hc⟩ := h.ex
  refine ⟨_, set_blk hg, by rw [Array.size_setIfInBounds]; exact hc.sz, fun j hj => ?_, ?_, ?_, ?_, ?_⟩
  · rw [set_at, hc.sz]
    unfold upd
    by_cases he : i = j
    · rw [if_pos ⟨he, by omega⟩, if_pos he.symm]
    · rw [if_neg (fun h => he h.1), if_neg (fun h => he h.symm)]; exact hc.d j hj
  · rw [set_at, if_neg (by omega)]; exact hc.nd
  · rw [set_at, if_neg (by omega)]; exact hc.dp
  · rw [set_at, if_neg (by omega)]; exact hc.ng
  · rw [set_at, if_neg (by omega)]; exact hc.tr
theorem Rw.setN {w : World} {g : Nat} {f : Nat → Nat} {nd dp : Int} {neg tr : Bool} (h : Rw w g f nd dp neg tr) (n : Int) : Rw (w.setCell ⟨g, 800, none⟩ (.int .i64 n)) g f n dp neg tr := by
  obtain ⟨cs, hg, hc⟩ := h.ex
  refine ⟨_, set_blk hg, by rw [Array.size_setIfInBounds]; exact hc.sz, fun j hj => ?_, ?_, ?_, ?_, ?_⟩
  · rw [set_at, if_neg (by omega)]; exact hc.d j hj
  · rw [set_at, hc.sz, if_pos (by omega)]
  · rw [set_at, if_neg (by omega)]; exact hc.dp
  · rw [set_at, if_neg (by omega)]; exact hc.ng
  · rw [set_at, if_neg (by omega)]; exact hc.tr
theorem Rw.setP {w : World} {g : Nat} {f : Nat → Nat} {nd dp : Int} {neg tr : Bool} (h : Rw w g f nd dp neg tr) (n : Int) : Rw (w.setCell ⟨g, 801, none⟩ (.int .i64 n)) g f nd n neg tr := by
  obtain ⟨cs, hg, hc⟩ := h.ex
  refine ⟨_, set_blk hg, by rw [Array.size_setIfInBounds]; exact hc.sz, fun j hj => ?_, ?_, ?_, ?_, ?_⟩
  · rw [set_at, if_neg (by omega)]; exact hc.d j hj
  · rw [set_at, if_neg (by omega)]; exact hc.nd
  · rw [set_at, hc.sz, if_pos (by omega)]
  · rw [set_at, if_neg (by omega)]; exact hc.ng
  · rw [set_at, if_neg (by omega)]; exact hc.tr
theorem Rw.setG {w : World} {g : Nat} {f : Nat → Nat} {nd dp : Int} {neg tr : Bool} (h : Rw w g f nd dp neg tr) (b : Bool) : Rw (w.setCell ⟨g, 802, none⟩ (.bool b)) g f nd dp b tr := by
  obtain ⟨cs, hg, hc⟩ := h.ex
  refine ⟨_, set_blk hg, by rw [Array.size_setIfInBounds]; exact hc.sz, fun j hj => ?_, ?_, ?_, ?_, ?_⟩
  · rw [set_at, if_neg (by omega)]; exact hc.d j hj
  · rw [set_at, if_neg (by omega)]; exact hc.nd
  · rw [set_at, if_neg (by omega)]; exact hc.dp
  · rw [set_at, hc.sz, if_pos (by omega)]
  · rw [set_at, if_neg (by omega)]; exact hc.tr
theorem Rw.setT {w : World} {g : Nat} {f : Nat → Nat} {nd dp : Int} {neg tr : Bool} (h : Rw w g f nd dp neg tr) (b : Bool) : Rw (w.setCell ⟨g, 803, none⟩ (.bool b)) g f nd dp neg b := by
  obtain ⟨cs, hg, hc⟩ := h.ex
  refine ⟨_, set_blk hg, by rw [Array.size_setIfInBounds]; exact hc.sz, fun j hj => ?_, ?_, ?_, ?_, ?_⟩
  · rw [set_at, if_neg (by omega)]; exact hc.d j hj
  · rw [set_at, if_neg (by omega)]; exact hc.nd
  · rw [set_at, if_neg (by omega)]; exact hc.dp
  · rw [set_at, if_neg (by omega)]; exact hc.ng
  · rw [set_at, hc.sz, if_pos (by omega)]
theorem Rw.drewN {w : World} {g : Nat} {f : Nat → Nat} {nd dp : Int} {neg tr : Bool} (h : Rw w g f nd dp neg tr) (n : Nat) : Rw (w.drewN n) g f nd dp neg tr := ⟨h.ex⟩
theorem Rw.drew {w : World} {g : Nat} {f : Nat → Nat} {nd dp : Int} {neg tr : Bool} (h : Rw w g f nd dp neg tr) : Rw w.drew g f nd dp neg tr := ⟨h.ex⟩
/-- The bytes of digits. -/
def Dgs (f : Nat → Nat) (ds : List Nat) : Prop := ∀ i, i < ds.length → f i = 48 + dg ds i
/-- A decimal of digits. -/
structure Dm (w : World) (g : Nat) (ds : List Nat) (dp : Int) (neg tr : Bool) : Prop where
  ex : ∃ f, Rw w g f (ds.length : Nat) dp neg tr ∧ Dgs f ds
  le : ds.length ≤ 800
  dig : ∀ i, dg ds i < 10

structure TrInv (f : Nat → Nat) (ds : List Nat) (m : Nat) : Prop where
  le : m ≤ ds.length
  eq : trimD ds m = trimD ds ds.length
theorem trimD_take (ds : List Nat) : ∀ m, m ≤ ds.length → ∃ j, j ≤ m ∧ trimD ds m = ds.take j := by
  intro m
  induction m with
  | zero => intro _; exact ⟨0, Nat.le_refl _, by simp [trimD]⟩
  | succ m ih =>
    intro h
    rw [trimD]
    split
    · obtain ⟨j, h1, h2⟩ := ih (by omega); exact ⟨j, by omega, h2⟩
    · exact ⟨m + 1, Nat.le_refl _, rfl⟩
theorem dm_take {w : World} {g : Nat} {f : Nat → Nat} {ds : List Nat} {dp : Int} {neg tr : Bool} {j : Nat} (hj : j ≤ ds.length) (h : Rw w g f (j : Nat) dp neg tr) (hd : Dgs f ds) (hle : ds.length ≤ 800) (hdig : ∀ i, dg ds i < 10) : Dm w g (ds.take j) dp neg tr := by
  have hl : (ds.take j).length = j := by rw [List.length_take]; omega
  refine ⟨⟨f, by rw [hl]; exact h, fun i hi => ?_⟩, by omega, fun i => ?_⟩
  · rw [hl] at hi
    rw [dg_take hi]; exact hd i (by omega)
  · rcases Nat.lt_or_ge i j with hi | hi
    · rw [dg_take hi]; exact hdig i
    · rw [dg_end (by omega)]; omega
set_option maxHeartbeats 1000000 in
set_option maxRecDepth 100000 in
theorem strim_any (g : Nat) (f : Nat → Nat) (ds : List Nat) (dp : Int) (neg tr : Bool) (w : World) (hr : Rw w g f (ds.length : Nat) dp neg tr) (hd : Dgs f ds) (hl : ds.length ≤ 800) (hdig : ∀ i, dg ds i < 10) :
    Calls Tryz.prog 133 #[.pointer (some ⟨g, 0, none⟩)] w fun e w' => e = .returned (.tuple #[]) ∧ Dm w' g (trimD ds ds.length) (trimP (trimD ds ds.length) dp) neg tr ∧ Bel g w w' := by
  have H0 := Hd.mk (And.intro hr (Bel.refl g w))
  have HDG := Hd.mk hd
  clear hr hd
  go_enter Tryz.func133, Tryz.ntmps133
  go_wp2
  go_loopg [] ds.length (fun m wr => Rw wr g f (m : Nat) dp neg tr ∧ Bel g w wr ∧ TrInv f ds m)
  case atStart => exact ⟨H0.out.1, H0.out.2, ⟨Nat.le_refl _, rfl⟩⟩
  case round =>
    clear H0
    obtain ⟨HR, HB, HT⟩ := hrel
    have hm := HT.le
    have hcn := HR.cnd
    have hcp := HR.cdp
    have hf := HR.fz
    have H := Hd.mk HR
    cases gk with
    | zero =>
      have hgd : decide ((0 : Int) < ((0 : Nat) : Int)) = false := rfl
      clear HR
      go_wp2_with fail
      go_quiet (fail)
      go_wp2
      go_end0
      refine ⟨rfl, ?_, (HB.drewN _).set _ _⟩
      rw [← HT.eq]
      show Dm _ g [] 0 neg tr
      have := dm_take (Nat.zero_le _) ((H.out.drewN nq).setP 0) HDG.out hl hdig
      rw [List.take_zero] at this
      exact this
    | succ m =>
      have hgd : decide ((0 : Int) < ((m + 1 : Nat) : Int)) = true := by simp
      have hc := HR.cell m (by omega)
      have hfm := HDG.out m (by omega)
      obtain ⟨x, hx⟩ : ∃ x, x = f m := ⟨_, rfl⟩
      rw [← hx] at hc hfm
      have HX := Hd.mk hfm
      have hm800 : (m : Int) < 800 := by omega
      have hm0 : (0 : Int) ≤ (m : Int) := by omega
      have hsub : ((m + 1 : Nat) : Int) - 1 = (m : Int) := by omega
      clear HR hx hfm
      by_cases hz : x = 48
      · have hb : ((x : Int) == 48) = true := beq_iff_eq.2 (by omega)
        have HE : Hd (TrInv f ds m) := ⟨⟨by omega, by rw [← HT.eq, trimD, if_pos (by have := HX.out; omega)]⟩⟩
        clear HT hz
        go_wp2_with fail
        go_quiet (fail)
        go_wp2
        go_roundg m
        case measure => omega
        case rel => exact ⟨(H.out.drewN nq).setN (m : Int), (HB.drewN _).set _ _, HE.out⟩
      · have hb : ((x : Int) == 48) = false := beq_eq_false_iff_ne.2 (by omega)
        have HE : Hd (trimD ds ds.length = ds.take (m + 1)) := ⟨by rw [← HT.eq, trimD, if_neg (by have := HX.out; omega)]⟩
        have hne : Hd (ds.take (m + 1) ≠ []) := ⟨by
          intro e
          have := congrArg List.length e
          rw [List.length_take, List.length_nil] at this; omega⟩
        clear HT hz
        go_wp2_with fail
        go_quiet (fail)
        go_wp2
        go_end0
        refine ⟨rfl, ?_, HB.drewN _⟩
        rw [HE.out]
        unfold trimP
        rw [if_neg hne.out]
        exact dm_take (by omega) (H.out.drewN nq) HDG.out hl hdig
end Go.Proofs.YtknjgopapbemcaaGreatDoor
/- Walks of internal/strconv's shouldRoundUp, RoundedInteger. -/
namespace Go.Proofs.YtknjgopapbemcaaGreatDoor
open Go.RowKit
set_option linter.unusedVariables false
set_option linter.unusedSimpArgs false
/-- Whether the nearest number of n digits is above; digits may be lost. -/
def nearT (ds : List Nat) (tr : Bool) (n : Nat) : Bool :=
  if ds.length ≤ n then false
  else if dg ds n = 5 ∧ n + 1 = ds.length then tr || (decide (0 < n) && decide (dg ds (n - 1) % 2 ≠ 0))
  else decide (5 ≤ dg ds n)
def upT (ds : List Nat) (tr : Bool) (p : Int) : Bool := if p < 0 then false else nearT ds tr p.toNat
def mantT (ds : List Nat) (tr : Bool) (p : Int) : Nat := if p < 0 then 0 else tn ds p.toNat + (nearT ds tr p.toNat).toNat
set_option maxHeartbeats 1000000 in
set_option maxRecDepth 100000 in
theorem sup_any (g : Nat) (f : Nat → Nat) (ds : List Nat) (dp : Int) (neg tr : Bool) (p : Int) (w : World) (hr : Rw w g f (ds.length : Nat) dp neg tr) (hd : Dgs f ds) (hl : ds.length ≤ 800) (hdig : ∀ i, dg ds i < 10) (hp1 : -5000 ≤ p) (hp2 : p ≤ 5000) :
    Calls Tryz.prog 127 #[.pointer (some ⟨g, 0, none⟩), .int .i64 p] w fun e w' => e = .returned (.bool (upT ds tr p)) ∧ w = w' := by
  have hcn := hr.cnd
  have hct := hr.ctr
  by_cases hneg : p < 0
  · have hb : decide (p < 0) = true := decide_eq_true hneg
    go_enter Tryz.func127, Tryz.ntmps127
    go_wp2
    go_ret
    exact ⟨ret_b (by unfold upT; rw [if_pos hneg]), rfl⟩
  · obtain ⟨n, rfl⟩ := Int.eq_ofNat_of_zero_le (show 0 ≤ p by omega)
    have hR : Hd (upT ds tr (n : Int) = nearT ds tr n) := ⟨by unfold upT; rw [if_neg hneg, Int.toNat_natCast]⟩
    clear hneg
    by_cases hge : ds.length ≤ n
    · have hb : decide (ds.length ≤ n) = true := decide_eq_true hge
      go_enter Tryz.func127, Tryz.ntmps127
      go_wp2
      go_ret
      exact ⟨ret_b (by rw [hR.out]; unfold nearT; rw [if_pos hge]), rfl⟩
    · have hb : decide (ds.length ≤ n) = false := decide_eq_false hge
      have hc := hr.cell n (by omega)
      have hfx := hd n (by omega)
      have hx10 := hdig n
      obtain ⟨x, hx⟩ : ∃ x, x = f n := ⟨_, rfl⟩
      rw [← hx] at hc hfx
      have HX := Hd.mk hfx
      have hn800 : (n : Int) < 800 := by omega
      have hn0 : (0 : Int) ≤ (n : Int) := by omega
      have hxb : x < 58 ∧ 48 ≤ x := by omega
      clear hx hfx
      by_cases h5 : x = 53
      · have hb5 : ((x : Int) == 53) = true := beq_iff_eq.2 (by omega)
        by_cases hend : n + 1 = ds.length
        · have hbe : ((n : Int) + 1 == (ds.length : Int)) = true := beq_iff_eq.2 (by omega)
          have hN : Hd (nearT ds tr n = (tr || (decide (0 < n) && decide (dg ds (n - 1) % 2 ≠ 0)))) := ⟨by unfold nearT; rw [if_neg hge, if_pos ⟨by have := HX.out; omega, hend⟩]⟩
          have HEND := Hd.mk hend
          clear hend h5
          cases tr
          case true =>
            go_enter Tryz.func127, Tryz.ntmps127
            go_wp2
            go_ret
            exact ⟨ret_b (by rw [hR.out, hN.out]; rfl), rfl⟩
          case false =>
            rcases Nat.eq_zero_or_pos n with h0 | h0
            · subst h0
              have hnil : ¬ ds = [] := by intro e; rw [e] at hge; simp at hge
              have hb1 : ((1 : Int) == (ds.length : Int)) = true := beq_iff_eq.2 (by have := HEND.out; omega)
              go_enter Tryz.func127, Tryz.ntmps127
              go_wp2
              go_ret
              exact ⟨ret_b (by rw [hR.out, hN.out]; rfl), rfl⟩
            · obtain ⟨k, rfl⟩ : ∃ k, n = k + 1 := ⟨n - 1, by omega⟩
              have hgt : decide ((0 : Int) < ((k + 1 : Nat) : Int)) = true := by simp
              have hck := hr.cell k (by omega)
              have hfk := hd k (by omega)
              have hk10 := hdig k
              obtain ⟨y, hy⟩ : ∃ y, y = f k := ⟨_, rfl⟩
              rw [← hy] at hck hfk
              have hsub : ((k + 1 : Nat) : Int) - 1 = (k : Int) := by omega
              have hk800 : (k : Int) < 800 := by omega
              have hyb : y < 58 ∧ 48 ≤ y := by omega
              have HY := Hd.mk hfk
              clear hy hfk
              go_enter Tryz.func127, Tryz.ntmps127
              go_wp2
              go_ret
              refine ⟨ret_b ?_, rfl⟩
              rw [hR.out, hN.out]
              have := HY.out
              have e : ((y : Int) - 48) % 2 = ((dg ds k % 2 : Nat) : Int) := by omega
              simp
              rw [e]
              rcases (by omega : dg ds k % 2 = 0 ∨ dg ds k % 2 = 1) with h | h <;> rw [h] <;> rfl
        · have hbe : ((n : Int) + 1 == (ds.length : Int)) = false := beq_eq_false_iff_ne.2 (by omega)
          have hN : Hd (nearT ds tr n = decide (5 ≤ dg ds n)) := ⟨by unfold nearT; rw [if_neg hge, if_neg (fun h => hend h.2)]⟩
          clear h5
          go_enter Tryz.func127, Tryz.ntmps127
          go_wp2
          go_ret
          refine ⟨ret_b ?_, rfl⟩
          rw [hR.out, hN.out]
          have := HX.out
          simp
          omega
      · have hb5 : ((x : Int) == 53) = false := beq_eq_false_iff_ne.2 (by omega)
        have hN : Hd (nearT ds tr n = decide (5 ≤ dg ds n)) := ⟨by unfold nearT; rw [if_neg hge, if_neg (fun h => by have := HX.out; omega)]⟩
        clear h5
        go_enter Tryz.func127, Tryz.ntmps127
        go_wp2
        go_ret
        refine ⟨ret_b ?_, rfl⟩
        rw [hR.out, hN.out]
        have := HX.out
        simp
        omega
theorem tn_lt {ds : List Nat} (hdig : ∀ i, dg ds i < 10) : ∀ n, tn ds n < 10 ^ n := by
  intro n
  induction n with
  | zero => simp [tn]
  | succ n ih => rw [tn, Nat.pow_succ]; have := hdig n; omega
set_option maxHeartbeats 1000000 in
set_option maxRecDepth 100000 in
theorem rint_any (g : Nat) (f : Nat → Nat) (ds : List Nat) (dp : Int) (neg tr : Bool) (w : World) (hr : Rw w g f (ds.length : Nat) dp neg tr) (hd : Dgs f ds) (hl : ds.length ≤ 800) (hdig : ∀ i, dg ds i < 10) (hp1 : -5000 ≤ dp) (hp2 : dp ≤ 18) :
    Calls Tryz.prog 121 #[.pointer (some ⟨g, 0, none⟩)] w fun e w' => e = .returned (.int .u64 (mantT ds tr dp : Nat)) ∧ w = w' := by
  have hcn := hr.cnd
  have hcp := hr.cdp
  have HS := Hd.mk (fun w' (h : w = w') => h ▸ sup_any g f ds dp neg tr dp w hr hd hl hdig (by omega) (by omega))
  have HRR := Hd.mk hr
  have HDG := Hd.mk hd
  clear hr hd
  have hb20 : decide ((20 : Int) < dp) = false := decide_eq_false (by omega)
  by_cases hneg : dp < 0
  · have hUP : Hd (upT ds tr dp = false) := ⟨by unfold upT; rw [if_pos hneg]⟩
    have hb : decide ((0 : Int) < dp) = false := decide_eq_false (by omega)
    have hM : Hd (mantT ds tr dp = 0) := ⟨by unfold mantT; rw [if_pos hneg]⟩
    go_enter Tryz.func121, Tryz.ntmps121
    go_wp2_with fail
    go_loopg [3, 4] 0 (fun _ v3 v4 wr => v3 = .int .i64 0 ∧ v4 = .int .u64 0 ∧ w = wr)
    case atStart => exact ⟨rfl, rfl, rfl⟩
    case round =>
      obtain ⟨rfl, rfl, rfl⟩ := hrel
      have hb2 : decide (0 < dp) = false := hb
      go_wp2_with fail
      go_loopg [3, 4] 0 (fun _ v3 v4 wr => v3 = .int .i64 0 ∧ v4 = .int .u64 0 ∧ w = wr)
      case atStart => exact ⟨rfl, rfl, rfl⟩
      case round =>
        obtain ⟨rfl, rfl, rfl⟩ := hrel
        have hup := hUP.out
        go_wp2_with (go_at_call 127; ((with_reducible refine (HS.out _ rfl).mono ?_); rintro e w' ⟨rfl, rfl⟩))
        go_ret
        exact ⟨ret_i (by rw [hM.out]; rfl), rfl⟩
  · obtain ⟨n, rfl⟩ := Int.eq_ofNat_of_zero_le (show 0 ≤ dp by omega)
    have hUP : Hd (upT ds tr (n : Int) = nearT ds tr n) := ⟨by unfold upT; rw [if_neg hneg, Int.toNat_natCast]⟩
    have hM : Hd (mantT ds tr (n : Int) = tn ds n + (nearT ds tr n).toNat) := ⟨by unfold mantT; rw [if_neg hneg, Int.toNat_natCast]⟩
    have hn18 : n ≤ 18 := by omega
    have HTL := Hd.mk (fun i (h : i ≤ n) => Nat.lt_of_lt_of_le (tn_lt hdig i) (Nat.pow_le_pow_right (n := 10) (by omega) (show i ≤ 18 by omega)))
    have HDI := Hd.mk hdig
    clear hneg hdig
    obtain ⟨q, hq⟩ : ∃ q, q = min n ds.length := ⟨_, rfl⟩
    have hq1 : q ≤ n := by omega
    have hq2 : q ≤ ds.length := by omega
    have HQ := Hd.mk hq
    clear hq
    go_enter Tryz.func121, Tryz.ntmps121
    go_wp2_with fail
    go_loopg [3, 4] q (fun m v3 v4 wr => ∃ i : Nat, v3 = .int .i64 (i : Int) ∧ v4 = .int .u64 (tn ds i : Nat) ∧ i + m = q ∧ w = wr)
    case atStart => exact ⟨0, rfl, rfl, by omega, rfl⟩
    case round =>
      obtain ⟨i, rfl, rfl, him, rfl⟩ := hrel
      cases gk with
      | succ m =>
        have hin : i < n := by omega
        have hil : i < ds.length := by omega
        have h1 : decide (i < n) = true := decide_eq_true hin
        have h2 : decide (i < ds.length) = true := decide_eq_true hil
        have hc := HRR.out.cell i (by omega)
        have hfx := HDG.out i hil
        have hx10 := HDI.out i
        have htl := HTL.out i (by omega)
        have ht : Hd (tn ds (i + 1) = 10 * tn ds i + dg ds i) := ⟨rfl⟩
        obtain ⟨T, hT⟩ : ∃ T, T = tn ds i := ⟨_, rfl⟩
        rw [← hT] at htl ht ⊢
        obtain ⟨x, hx⟩ : ∃ x, x = f i := ⟨_, rfl⟩
        rw [← hx] at hc hfx
        have HX := Hd.mk hfx
        have hxb : x < 58 ∧ 48 ≤ x := by omega
        have hi800 : (i : Int) < 800 := by omega
        clear hx hfx hT
        go_wp2_with fail
        go_roundg m
        case measure => omega
        case rel => exact ⟨i + 1, by go_num, by rw [ht.out]; have := HX.out; exact congrArg (Value.int .u64) (by omega), by omega, rfl⟩
      | zero =>
        obtain rfl : i = q := by omega
        have htl := HTL.out i hq1
        have hstop : Hd (i = n ∨ i = ds.length) := ⟨by have := HQ.out; omega⟩
        have hb : (decide (i < n) = false) ∨ (decide (i < n) = true ∧ decide (i < ds.length) = false) := by
          rcases hstop.out with h | h
          · left; exact decide_eq_false (by omega)
          · by_cases h3 : i < n
            · right; exact ⟨decide_eq_true h3, decide_eq_false (by omega)⟩
            · left; exact decide_eq_false h3
        have key : ∀ (Q : Prop), Q → Q := fun _ h => h
        rcases hb with hb | ⟨hb, hb2⟩
        all_goals
          go_wp2_with fail
          go_loopg [3, 4] (n - i) (fun m v3 v4 wr => ∃ j : Nat, v3 = .int .i64 (j : Int) ∧ v4 = .int .u64 (tn ds j : Nat) ∧ j + m = n ∧ i ≤ j ∧ w = wr)
          case atStart => exact ⟨i, rfl, rfl, by omega, Nat.le_refl _, rfl⟩
          case round =>
            clear hb
            obtain ⟨j, rfl, rfl, hjm, hij, rfl⟩ := hrel
            cases gk with
            | succ m =>
              have h1 : decide (j < n) = true := decide_eq_true (by omega)
              have htl := HTL.out j (by omega)
              have ht : Hd (tn ds (j + 1) = 10 * tn ds j) := ⟨by
                show 10 * tn ds j + dg ds j = _
                rw [dg_end (by rcases hstop.out with h | h <;> omega), Nat.add_zero]⟩
              obtain ⟨T, hT⟩ : ∃ T, T = tn ds j := ⟨_, rfl⟩
              rw [← hT] at htl ht ⊢
              clear hT
              go_wp2_with fail
              go_roundg m
              case measure => omega
              case rel => exact ⟨j + 1, by go_num, by rw [ht.out]; exact congrArg (Value.int .u64) (by omega), by omega, by omega, rfl⟩
            | zero =>
              obtain rfl : j = n := by omega
              have h1 : decide (j < j) = false := decide_eq_false (by omega)
              have htl := HTL.out j (Nat.le_refl _)
              cases hnr : nearT ds tr j
              · have hup : upT ds tr (j : Int) = false := by rw [hUP.out]; exact hnr
                have HNR := Hd.mk hnr
                go_wp2_with (go_at_call 127; ((with_reducible refine (HS.out _ rfl).mono ?_); rintro e w' ⟨rfl, rfl⟩))
                go_ret
                exact ⟨ret_i (by rw [hM.out, HNR.out]; rfl), rfl⟩
              · have hup : upT ds tr (j : Int) = true := by rw [hUP.out]; exact hnr
                have HNR := Hd.mk hnr
                go_wp2_with (go_at_call 127; ((with_reducible refine (HS.out _ rfl).mono ?_); rintro e w' ⟨rfl, rfl⟩))
                go_ret
                exact ⟨ret_i (by rw [hM.out, HNR.out]; rfl), rfl⟩
end Go.Proofs.YtknjgopapbemcaaGreatDoor
