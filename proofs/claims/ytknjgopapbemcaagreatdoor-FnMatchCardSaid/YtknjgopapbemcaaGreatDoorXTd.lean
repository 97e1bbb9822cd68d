/- Td: joined by merge.py for the claim. -/
import Derived.Test.YtknjgopapbemcaaGreatDoorXTaTc
import Derived.Lib.TrimU
/- What both matchers answer; the facts of the world that they lean on. -/
namespace Go.Proofs.YtknjgopapbemcaaGreatDoor
open Go.RowKit
open Go.Lib (CaseVar CaseTab caseA)
set_option linter.unusedVariables false
set_option linter.unusedSimpArgs false
/-- x is ahead of s. -/
def preB (s x : ByteArray) : Bool := decide (x.size ≤ s.size) && decide (s.extract 0 x.size = x)
def sufB (s x : ByteArray) : Bool := decide (x.size ≤ s.size) && decide (s.extract (s.size - x.size) s.size = x)
theorem tx_data {s t : ByteArray} (h : s.data.toList = t.data.toList) : s = t := tx_inj (by unfold tx; rw [h])
theorem ext_data (s : ByteArray) (a b : Nat) : (s.extract a b).data.toList = (s.data.toList.take b).drop a := by
  rw [ByteArray.data_extract, Array.toList_extract, List.extract_eq_take_drop, List.drop_take]
theorem sz_data (s : ByteArray) : s.data.toList.length = s.size := by rw [Array.length_toList]; rfl
theorem pre_iff (s x : ByteArray) : Lib.hasPrefix s.data.toList x.data.toList = preB s x := by
  unfold Lib.hasPrefix preB
  rw [Bool.eq_iff_iff, List.isPrefixOf_iff_prefix, Bool.and_eq_true, decide_eq_true_iff, decide_eq_true_iff, List.prefix_iff_eq_take]
  rw [sz_data]
  constructor
  · intro h
    have hl := congrArg List.length h
    rw [List.length_take, sz_data, sz_data] at hl
    exact ⟨by omega, tx_data (by rw [ext_data, List.drop_zero, ← h])⟩
  · rintro ⟨h1, h2⟩
    have h3 := congrArg (fun b : ByteArray => b.data.toList) h2
    simp only [ext_data, List.drop_zero] at h3
    exact h3.symm
theorem suf_iff (s x : ByteArray) : Lib.hasSuffix s.data.toList x.data.toList = sufB s x := by
  unfold Lib.hasSuffix sufB
  rw [Bool.eq_iff_iff, List.isSuffixOf_iff_suffix, Bool.and_eq_true, decide_eq_true_iff, decide_eq_true_iff, List.suffix_iff_eq_drop]
  rw [sz_data, sz_data]
  have ht : ∀ k, (s.data.toList.take s.size).drop k = s.data.toList.drop k := fun k => by rw [List.take_of_length_le (by rw [sz_data]; exact Nat.le_refl _)]
  constructor
  · intro h
    have hl := congrArg List.length h
    rw [List.length_drop, sz_data, sz_data] at hl
    exact ⟨by omega, tx_data (by rw [ext_data, ht, ← h])⟩
  · rintro ⟨h1, h2⟩
    have h3 := congrArg (fun b : ByteArray => b.data.toList) h2
    simp only [ext_data, ht] at h3
    exact h3.symm
/-- In lower case. -/
def low (s : ByteArray) : ByteArray := ⟨(Lib.toLowerD s.data.toList).toArray⟩
/-- How two floats compare, by the operator. -/
def fcmp (op : Int) (x y : Nat) : Bool :=
  if op = 2 then FloatKind.f64.format.order x y == some .gt
  else if op = 3 then FloatKind.f64.format.order x y == some .gt || FloatKind.f64.format.order x y == some .eq
  else if op = 4 then FloatKind.f64.format.order x y == some .lt
  else FloatKind.f64.format.order x y == some .lt || FloatKind.f64.format.order x y == some .eq
def numB (op : Int) : Option Nat → Option Nat → Bool
  | some x, some y => fcmp op x y
  | _, _ => false
/-- What a matcher answers: the fold of two texts is EF. -/
def mAns (EF : ByteArray → ByteArray → Bool) (c t : ByteArray) (fold : Bool) (op : Int) : Bool :=
  if op = 0 then (if fold then EF c t else decide (c = t))
  else if op = 1 then !(if fold then EF c t else decide (c = t))
  else if op = 2 ∨ op = 3 ∨ op = 4 ∨ op = 5 then numB op (pf (tx c)) (pf (tx t))
  else if op = 6 then holdsB (if fold then low c else c) (if fold then low t else t)
  else if op = 7 then !holdsB (if fold then low c else c) (if fold then low t else t)
  else if op = 8 then preB (if fold then low c else c) (if fold then low t else t)
  else if op = 9 then sufB (if fold then low c else c) (if fold then low t else t)
  else false
/-- unicode's asciiFold and caseOrbit. -/
def afold : List Nat := [0, 1, 2, 3, 4, 5, 6, 7, 8, 9, 10, 11, 12, 13, 14, 15, 16, 17, 18, 19, 20, 21, 22, 23, 24, 25, 26, 27, 28, 29, 30, 31, 32, 33, 34, 35, 36, 37, 38, 39, 40, 41, 42, 43, 44, 45, 46, 47, 48, 49, 50, 51, 52, 53, 54, 55, 56, 57, 58, 59, 60, 61, 62, 63, 64, 97, 98, 99, 100, 101, 102, 103, 104, 105, 106, 107, 108, 109, 110, 111, 112, 113, 114, 115, 116, 117, 118, 119, 120, 121, 122, 91, 92, 93, 94, 95, 96, 65, 66, 67, 68, 69, 70, 71, 72, 73, 74, 8490, 76, 77, 78, 79, 80, 81, 82, 383, 84, 85, 86, 87, 88, 89, 90, 123, 124, 125, 126, 127]
def orbit : List (Nat × Nat) := [(75, 107), (83, 115), (107, 8490), (115, 383), (181, 924), (197, 229), (223, 7838), (229, 8491), (304, 304), (305, 305), (383, 83), (452, 453), (453, 454), (454, 452), (455, 456), (456, 457), (457, 455), (458, 459), (459, 460), (460, 458), (497, 498), (498, 499), (499, 497), (837, 921), (912, 8147), (914, 946), (917, 949), (920, 952), (921, 953), (922, 954), (924, 956), (928, 960), (929, 961), (931, 962), (934, 966), (937, 969), (944, 8163), (946, 976), (949, 1013), (952, 977), (953, 8126), (954, 1008), (956, 181), (960, 982), (961, 1009), (962, 963), (963, 931), (966, 981), (969, 8486), (976, 914), (977, 1012), (981, 934), (982, 928), (1008, 922), (1009, 929), (1012, 920), (1013, 917), (1042, 1074), (1044, 1076), (1054, 1086), (1057, 1089), (1058, 1090), (1066, 1098), (1074, 7296), (1076, 7297), (1086, 7298), (1089, 7299), (1090, 7300), (1098, 7302), (1122, 1123), (1123, 7303), (7296, 1042), (7297, 1044), (7298, 1054), (7299, 1057), (7300, 7301), (7301, 1058), (7302, 1066), (7303, 1122), (7304, 42570), (7776, 7777), (7777, 7835), (7835, 7776), (7838, 223), (8126, 837), (8147, 912), (8163, 944), (8486, 937), (8490, 75), (8491, 197), (42570, 42571), (42571, 7304), (64261, 64262), (64262, 64261)]
/-- The tables of folding lie there. -/
structure FoldT (w : World) : Prop where
  a : ∀ i, i < 128 → w.cell? ⟨0, i, none⟩ = some (.int .u16 (afold.getD i 0 : Nat))
  o : ∃ P o c, P < w.heap.size ∧ w.cell? ⟨1, 0, none⟩ = some (.slice (some ⟨P, o, none⟩) 94 c) ∧ 94 ≤ c ∧ ∀ k, k < 94 → w.cell? ⟨P, o + k * 2, none⟩ = some (.int .u16 (orbit.getD k (0, 0)).1) ∧ w.cell? ⟨P, o + k * 2 + 1, none⟩ = some (.int .u16 (orbit.getD k (0, 0)).2)
/-- What the matchers read of the library's variables. -/
structure Wd (w : World) : Prop where
  gl : Gl w
  er : Er w
  cv : CaseVar 2 caseA w
  ut : Lib.Utf8Tabs 3 4 w
  fo : FoldT w
theorem lt_size_of_cell {w : World} {b o : Nat} {v : Value} (h : w.cell? ⟨b, o, none⟩ = some v) : b < w.heap.size := by
  apply Nat.lt_of_not_le
  intro hle
  unfold World.cell? at h
  rw [Array.getElem?_eq_none hle] at h
  simp at h
theorem caseVar_below {w w' : World} (h : CaseVar 2 caseA w) (hb : Below w.heap.size w w') : CaseVar 2 caseA w' := by
  obtain ⟨R, oR, cap, h1, h2⟩ := h
  refine ⟨R, oR, cap, by rw [hb.cell (p := ⟨2, 0, none⟩) (lt_size_of_cell h1)]; exact h1, fun i hi => ?_⟩
  obtain ⟨a, b, c, d, e⟩ := h2 i hi
  have hR := lt_size_of_cell a
  have hc : ∀ o, w'.cell? ⟨R, o, none⟩ = w.cell? ⟨R, o, none⟩ := fun o => hb.cell (p := ⟨R, o, none⟩) hR
  exact ⟨by rw [hc]; exact a, by rw [hc]; exact b, by rw [hc]; exact c, by rw [hc]; exact d, by rw [hc]; exact e⟩
theorem FoldT.below {w w' : World} (h : FoldT w) (hz : 20 ≤ w.heap.size) (hb : Below w.heap.size w w') : FoldT w' := by
  obtain ⟨P, o, c, h1, h2, h3, h4⟩ := h.o
  refine ⟨fun i hi => by rw [hb.cell (p := ⟨0, i, none⟩) (show 0 < w.heap.size by omega)]; exact h.a i hi, P, o, c, Nat.lt_of_lt_of_le h1 hb.size, by rw [hb.cell (p := ⟨1, 0, none⟩) (show 1 < w.heap.size by omega)]; exact h2, h3, fun k hk => ?_⟩
  have hc : ∀ o, w'.cell? ⟨P, o, none⟩ = w.cell? ⟨P, o, none⟩ := fun o => hb.cell (p := ⟨P, o, none⟩) h1
  rw [hc, hc]
  exact h4 k hk
theorem Wd.below {w w' : World} (h : Wd w) (hb : Below w.heap.size w w') : Wd w' :=
  ⟨h.gl.below hb, h.er.below h.gl.sz hb, caseVar_below h.cv hb, Utf8Tabs_below h.ut hb, h.fo.below h.gl.sz hb⟩
/-- The fold of two texts. -/
def EFok (EF : ByteArray → ByteArray → Bool) : Prop := ∀ (s t : ByteArray) (w : World), Wd w → s.size ≤ 400 → t.size ≤ 400 →
  Calls Tryz.prog 13 #[.string s, .string t] w fun e w' => e = .returned (.bool (EF s t)) ∧ Below w.heap.size w w'
theorem encodeRune_len (r : Int) : (Lib.encodeRune r).length ≤ 4 := by
  unfold Lib.encodeRune Lib.encodeRuneZ
  repeat' split
  all_goals simp
theorem mapGoD_len (f : Int → Int) : ∀ (n : Nat) (l : List UInt8), l.length ≤ n → (Lib.mapD f l).length ≤ 4 * l.length := by
  intro n
  induction n with
  | zero =>
    intro l hl
    have : l = [] := List.eq_nil_of_length_eq_zero (by omega)
    subst this
    rw [Lib.mapD_nil]; simp
  | succ n ih =>
    intro l hl
    by_cases hne : l = []
    · subst hne; rw [Lib.mapD_nil]; simp
    · have h0 : 0 < l.length := List.length_pos_iff.2 hne
      have h1 : 1 ≤ (Lib.decodeL l).2 := Lib.decodeL_width l
      rw [Lib.mapD_step f l hne, List.length_append]
      have h2 := ih (l.drop (Lib.decodeL l).2) (by rw [List.length_drop]; omega)
      rw [List.length_drop] at h2
      have h3 : (if 0 ≤ f (Lib.decodeL l).1 then Lib.encodeRune (f (Lib.decodeL l).1) else []).length ≤ 4 := by
        split
        · exact encodeRune_len _
        · simp
      omega
theorem low_size (s : ByteArray) (h : s.size ≤ 400) : (low s).size ≤ 1600 := by
  have h1 := mapGoD_len Lib.toLowerU _ s.data.toList (Nat.le_refl _)
  rw [sz_data] at h1
  have h2 : (low s).size = (Lib.toLowerD s.data.toList).length := by unfold low; simp [ByteArray.size]
  rw [h2]
  have h3 : (Lib.toLowerD s.data.toList).length ≤ 4 * s.size := h1
  omega
theorem toLower_any (s : ByteArray) (w : World) (hW : Wd w) (hs : s.size ≤ 400) : Calls Tryz.prog 11 #[.string s] w fun e w' => e = .returned (.string (low s)) ∧ Below w.heap.size w w' :=
  Tryz.strings_ToLower_any s w (by omega) hW.cv hW.ut
/-- A filter's value and the text that it says. -/
structure VText (v : Value) (t : ByteArray) : Prop where
  kind : (v = .iface 9 (.string t)) ∨ (∃ n : Int, v = .iface 3 (.int .i64 n) ∧ -9223372036854775808 ≤ n ∧ n ≤ 9223372036854775807 ∧ tx t = dcm n)
  size : t.size ≤ 400
theorem zzText_v {v : Value} {t : ByteArray} (h : VText v t) (w : World) : Calls Tryz.prog 47 #[v] w fun e w' => e = .returned (.string t) ∧ Below w.heap.size w w' := by
  rcases h.kind with rfl | ⟨n, rfl, h1, h2, h3⟩
  · exact (zzText_str t w).mono fun e w' h => ⟨h.1, by rw [← h.2]; exact Below.refl _ _⟩
  · refine (zzText_int n w h1 h2).mono ?_
    rintro e w' ⟨⟨u, rfl, hu⟩, hb⟩
    exact ⟨by rw [tx_inj (hu.trans h3.symm)], hb⟩
end Go.Proofs.YtknjgopapbemcaaGreatDoor
