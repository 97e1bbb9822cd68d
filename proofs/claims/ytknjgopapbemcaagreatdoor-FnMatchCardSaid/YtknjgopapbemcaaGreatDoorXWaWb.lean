/- Wa Wb: joined by merge.py for the claim. -/
import Derived.Test.YtknjgopapbemcaaGreatDoorXTd
import Derived.Test.YtknjgopapbemcaaGreatDoorXSj
import Derived.Test.YtknjgopapbemcaaGreatDoorRows
import Derived.Lib.LaidCase
import Derived.Lib.LaidU8T
import Derived.PinnedBridge
import Derived.LaidLaws
import Derived.OpenShut
import Derived.MakeChecks
/- From what the row lays in the library's variables to what the walks read there. -/
namespace Go.Proofs.YtknjgopapbemcaaGreatDoor
open Go.RowKit Go.Lib
set_option linter.unusedVariables false
set_option linter.unusedSimpArgs false
set_option maxRecDepth 100000
abbrev TR (w : World) (m : Nat) (t : TypeId) (cs : List Value) (d : DataW Unit) (q : List MemPlace) : Prop :=
  DataW.trod (fun _ => ()) Tryz.prog w 0 (fun _ => true) false m t cs = some (d, q)
variable {w : World} {m : Nat} {t : TypeId} {cs : List Value} {q : List MemPlace}
theorem rd_int {k : IntKind} {z : Int} (ht : Tryz.prog.underlying t = some (.int k)) (h : TR w m t cs (.lit (.int k z)) q) : cs = [.int k z] := by
  obtain ⟨n, rfl, e, _⟩ := DataW.trod_int ht h
  cases e; rfl
theorem rd_bool {b : Bool} (ht : Tryz.prog.underlying t = some .bool) (h : TR w m t cs (.lit (.bool b)) q) : cs = [.bool b] := by
  obtain ⟨n, rfl, e⟩ := DataW.trod_bool ht h
  cases e; rfl
theorem rd_str {l : List UInt8} (ht : Tryz.prog.underlying t = some .string) (h : TR w m t cs (.lit (.string l)) q) : cs = [.string ⟨l.toArray⟩] := by
  obtain ⟨s, rfl, e, _⟩ := DataW.trod_string ht h
  cases e; rfl
theorem rd_flt {k : FloatKind} {z : Nat} (ht : Tryz.prog.underlying t = some (.float k)) (h : TR w m t cs (.lit (.float k z)) q) : cs = [.float k z] := by
  unfold TR at h
  cases m with
  | zero => simp [DataW.trod] at h
  | succ n =>
    unfold DataW.trod at h
    rw [ht] at h
    split at h <;> simp_all
theorem slice_at {n : String} {g : Nat} {e : TypeId} {es : List (DataW Unit)} (hn : Tryz.prog.globalNamed n = some g) (hy : (Tryz.prog.globals[g]?).map (·.type) = some t) (ht : Tryz.prog.underlying t = some (.slice e))
    (hc : 0 < Tryz.prog.cellsOf e) (hpos : 0 < es.length) (h : VarReads Tryz.prog w n (.slice es [])) :
    ∃ R o cap, w.cell? ⟨g, 0, none⟩ = some (.slice (some ⟨R, o, none⟩) es.length cap) ∧ es.length ≤ cap ∧
      ∀ i d, es[i]? = some d → ∃ m cs q, TR w m e cs d q ∧ ∀ j, j < Tryz.prog.cellsOf e → w.cell? ⟨R, o + i * Tryz.prog.cellsOf e + j, none⟩ = cs[j]? := by
  obtain ⟨g', t', cs, fuel, p, hg, hty, hvar, hd⟩ := h
  obtain rfl := Option.some.inj (hn.symm.trans hg)
  obtain rfl := Option.some.inj (hy.symm.trans hty)
  rcases DataW.trod_slice ht hd with ⟨_, hx'⟩ | ⟨a', len, cap, el, rs, m, rfl, hc0, hx', _, hlc, _, hel, helem, hsp, _⟩
  · cases hx'
  have e0 := congrArg Prod.fst hx'
  simp only [DataW.slice.injEq] at e0
  obtain ⟨eE, eR⟩ := e0
  have hlen : es.length = len := by
    have := congrArg List.length eE
    simp at this
    omega
  have hrow : ∀ i d, es[i]? = some d → ∃ cs q, TR w m e cs d q ∧ ∀ j, j < Tryz.prog.cellsOf e → w.cell? ((a'.add (i * Tryz.prog.cellsOf e)).add j) = cs[j]? := by
    intro i d hid
    have hi : i < es.length := (List.getElem?_eq_some_iff.1 hid).1
    have h1 := helem i (by omega)
    obtain ⟨b, hb⟩ : ∃ b, el[i]? = some b := ⟨el[i]'(by omega), List.getElem?_eq_getElem (by omega)⟩
    rw [hb] at h1
    obtain ⟨ce, hce, hte⟩ := Option.bind_eq_some_iff.1 h1
    have hb1 : b.1 = d := by
      rw [eE, List.getElem?_map, hb] at hid
      exact Option.some.inj hid
    obtain ⟨_, _, hcc⟩ := World.cells?_some hce
    exact ⟨ce, b.2, by rw [← hb1]; exact hte, hcc⟩
  obtain ⟨R, oR, sR⟩ := a'
  obtain rfl : sR = none := by
    have h1 := helem 0 (by omega)
    obtain ⟨b, hb⟩ : ∃ b, el[0]? = some b := ⟨el[0]'(by omega), List.getElem?_eq_getElem (by omega)⟩
    rw [hb] at h1
    obtain ⟨ce, hce, hte⟩ := Option.bind_eq_some_iff.1 h1
    obtain ⟨_, hl, hcc⟩ := World.cells?_some hce
    have h2 := hcc 0 hc
    rw [List.getElem?_eq_getElem (by omega)] at h2
    have : (Addr.add (Addr.add ⟨R, oR, sR⟩ (0 * Tryz.prog.cellsOf e)) 0) = ⟨R, oR, sR⟩ := by simp [Addr.add]
    rw [this] at h2
    exact cell_spot h2
  refine ⟨R, oR, cap, ?_, by omega, fun i d hid => ?_⟩
  · rw [World.var?_cell hg hvar 0, ← Array.getElem?_toList, hc0, hlen]
    rfl
  · obtain ⟨cs, q, h1, h2⟩ := hrow i d hid
    refine ⟨m, cs, q, h1, fun j hj => ?_⟩
    have := h2 j hj
    rw [Addr.add_lit, Addr.add_lit] at this
    exact this
theorem array_at {n : String} {g k : Nat} {e : TypeId} {es : List (DataW Unit)} (hn : Tryz.prog.globalNamed n = some g) (hy : (Tryz.prog.globals[g]?).map (·.type) = some t) (ht : Tryz.prog.underlying t = some (.array k e))
    (h : VarReads Tryz.prog w n (.agg es)) :
    ∃ vs : List Value, (∀ i, w.cell? ⟨g, i, none⟩ = vs[i]?) ∧ ∀ i, i < k → ∃ m d q, es[i]? = some d ∧ TR w m e ((vs.drop (i * Tryz.prog.cellsOf e)).take (Tryz.prog.cellsOf e)) d q := by
  obtain ⟨g', t', cs, fuel, p, hg, hty, hvar, hd⟩ := h
  obtain rfl := Option.some.inj (hn.symm.trans hg)
  obtain rfl := Option.some.inj (hy.symm.trans hty)
  exact ⟨cs.toList, fun i => by rw [World.var?_cell hg hvar i, Array.getElem?_toList], fun i hi => array_elem ht hd i hi⟩
theorem plain_at {n : String} {g : Nat} {d : DataW Unit} (hn : Tryz.prog.globalNamed n = some g) (hy : (Tryz.prog.globals[g]?).map (·.type) = some t) (h : VarReads Tryz.prog w n d) :
    ∃ vs : List Value, (∀ i, w.cell? ⟨g, i, none⟩ = vs[i]?) ∧ ∃ m q, TR w m t vs d q := by
  obtain ⟨g', t', cs, fuel, p, hg, hty, hvar, hd⟩ := h
  obtain rfl := Option.some.inj (hn.symm.trans hg)
  obtain rfl := Option.some.inj (hy.symm.trans hty)
  exact ⟨cs.toList, fun i => by rw [World.var?_cell hg hvar i, Array.getElem?_toList], fuel, p, hd⟩
theorem struct_at {fs : Array Field} {ds : List (DataW Unit)} (ht : Tryz.prog.underlying t = some (.struct fs)) (h : TR w m t cs (.agg ds) q) :
    ∃ m', ∀ (i : Nat) (T : TypeId) (o c : Nat) (f : Field), fs[i]? = some f → f.type = T → f.offset = o → Tryz.prog.cellsOf T = c → ∀ d, ds[i]? = some d → ∃ q', TR w m' T ((cs.drop o).take c) d q' := by
  obtain ⟨xs, n, rfl, hx, hl, hxl, hall⟩ := DataW.trod_struct ht h
  have hds : ds = xs.map (·.1) := by
    have := congrArg Prod.fst hx
    simpa using this
  refine ⟨n, fun i T o c f hf hT ho hc d hd => ?_⟩
  subst hT ho hc
  have h1 := hall i f hf
  rw [hds, List.getElem?_map] at hd
  cases hb : xs[i]? with
  | none => rw [hb] at hd; cases hd
  | some b =>
    rw [hb] at hd h1
    obtain rfl : b.1 = d := Option.some.inj hd
    exact ⟨b.2, h1⟩
theorem at_pair {vs : List Value} {c k : Nat} {v : Value} (h : (((vs.drop c).take 2).drop k).take 1 = [v]) (hk : k < 2) : vs[c + k]? = some v := by
  have := at_of_take h
  rw [List.getElem?_take, if_pos hk, List.getElem?_drop] at this
  exact this
theorem LaidVars_mem {P : Program} {w : World} : ∀ {l : List (String × DataW Unit)} {ps : List MemPlace}, DataW.LaidVars P w l ps → ∀ n d, (n, d) ∈ l → ∃ g cs, P.globalNamed n = some g ∧ w.var? P n = some cs ∧ ∀ i, i < cs.size → MemPlace.cell g i ∈ ps
  | [], _, _, _, _, hm => by cases hm
  | (n', d') :: r, ps, h, n, d, hm => by
    obtain ⟨g, t, cs, fuel, p, q, h1, h2, h3, h4, h5, h6⟩ := h
    rcases List.mem_cons.1 hm with e | e
    · cases e
      refine ⟨g, cs, h1, h3, fun i hi => ?_⟩
      rw [h6]
      refine List.mem_append_left _ (List.mem_append_left _ ?_)
      exact List.mem_map.2 ⟨i, List.mem_range.2 hi, by simp⟩
    · obtain ⟨g', cs', k1, k2, k3⟩ := LaidVars_mem h5 n d e
      exact ⟨g', cs', k1, k2, fun i hi => by rw [h6]; exact List.mem_append_right _ (k3 i hi)⟩
theorem warm {n : String} {d : DataW Unit} {l : List (String × DataW Unit)} {g : Nat} {v : Value} (h : laidMet Tryz.prog l w) (hm : (n, d) ∈ l) (hn : Tryz.prog.globalNamed n = some g) (hv : w.cell? ⟨g, 0, none⟩ = some v) :
    ∃ c t, w.heap[g]? = some (.cells c t (0, 0)) := by
  obtain ⟨ps, hl, _, hf⟩ := h
  obtain ⟨g', cs, h1, h2, h3⟩ := LaidVars_mem hl n d hm
  obtain rfl := Option.some.inj (hn.symm.trans h1)
  refine (hf g 0 (h3 0 ?_)).1
  have := World.var?_cell hn h2 0
  rw [hv] at this
  exact (Array.getElem?_eq_some_iff.1 this.symm).1
end Go.Proofs.YtknjgopapbemcaaGreatDoor
/- What the row lays is what the walks need. -/
namespace Go.Proofs.YtknjgopapbemcaaGreatDoor
open Go.RowKit Go.Lib
set_option linter.unusedVariables false
set_option linter.unusedSimpArgs false
set_option maxRecDepth 100000
variable {w : World}
abbrev TL (w : World) : Prop := laidMet Tryz.prog Rows.fnMatchRow.laid w
theorem mem_of_get {l : List (String × DataW Unit)} {x : String × DataW Unit} (i : Nat) (h : l[i]? = some x) : x ∈ l := List.mem_of_getElem? h
theorem row3 {P o cap n : Nat} {g : Nat} : True := trivial
theorem wd_fold (h : TL w) : FoldT w := by
  refine ⟨fun i hi => ?_, ?_⟩
  · obtain ⟨vs, h1, h2⟩ := array_at (by kernel_rfl : Tryz.prog.globalNamed "unicode.asciiFold" = some 0) (by kernel_rfl) Tryz.underlying96 (laidMet.reads h (mem_of_get 12 rfl))
    obtain ⟨m, d, q, h3, h4⟩ := h2 i hi
    rw [show Tryz.prog.cellsOf 95 = 1 by kernel_rfl] at h4
    have he : (afold.map fun n => (DataW.lit (.int .u16 ((n : Nat) : Int)) : DataW Unit))[i]? = some d := h3
    have hl : afold.length = 128 := by decide +kernel
    rw [List.getElem?_map, List.getElem?_eq_getElem (by omega)] at he
    obtain rfl := (Option.some.inj he)
    have h5 := at_of_take (rd_int Tryz.underlying95 h4)
    have hg : afold.getD i 0 = afold[i] := by rw [List.getD, List.getElem?_eq_getElem (by omega)]; rfl
    rw [h1, hg]
    rw [Nat.mul_one] at h5
    exact h5
  · have hlo : orbit.length = 94 := by decide +kernel
    obtain ⟨R, o, c, h1, h2, h3⟩ := slice_at (es := orbit.map fun x => .agg [.lit (.int .u16 ((x.1 : Nat) : Int)), .lit (.int .u16 ((x.2 : Nat) : Int))]) (by kernel_rfl : Tryz.prog.globalNamed "unicode.caseOrbit" = some 1) (by kernel_rfl) Tryz.underlying97 (by decide +kernel) (by rw [List.length_map]; omega) (laidMet.reads h (mem_of_get 13 rfl))
    rw [List.length_map, hlo] at h1 h2
    have hk : ∀ k, k < 94 → w.cell? ⟨R, o + k * 2, none⟩ = some (.int .u16 (orbit.getD k (0, 0)).1) ∧ w.cell? ⟨R, o + k * 2 + 1, none⟩ = some (.int .u16 (orbit.getD k (0, 0)).2) := by
      intro k hk
      have hg : orbit.getD k (0, 0) = orbit[k] := by rw [List.getD, List.getElem?_eq_getElem (by omega)]; rfl
      obtain ⟨m, cs, q, k1, k2⟩ := h3 k _ (by rw [List.getElem?_map, List.getElem?_eq_getElem (by omega)]; rfl)
      rw [show Tryz.prog.cellsOf 100 = 2 by kernel_rfl] at k2
      obtain ⟨m', hs⟩ := struct_at Tryz.underlying100 k1
      obtain ⟨q0, s0⟩ := hs 0 95 0 1 _ rfl rfl rfl (by kernel_rfl) _ rfl
      obtain ⟨q1, s1⟩ := hs 1 95 1 1 _ rfl rfl rfl (by kernel_rfl) _ rfl
      have e0 := at_of_take (rd_int Tryz.underlying95 s0)
      have e1 := at_of_take (rd_int Tryz.underlying95 s1)
      rw [hg]
      exact ⟨(k2 0 (by omega)).trans e0, (k2 1 (by omega)).trans e1⟩
    exact ⟨R, o, c, lt_size_of_cell (hk 0 (by omega)).1, h1, h2, hk⟩
theorem wd_ut (h : TL w) : Lib.Utf8Tabs 3 4 w := by
  have X : U8Extra Tryz.prog Tryz.lays197_ren := ⟨by kernel_rfl, by kernel_rfl, by kernel_rfl, by kernel_rfl, by kernel_rfl, by kernel_rfl, by kernel_rfl⟩
  have L : U8Types Tryz.prog Tryz.lays197_ren := ⟨by kernel_rfl, by kernel_rfl, by kernel_rfl, by kernel_rfl⟩
  exact utf8Tabs_of_readsT L X (by rw [← Pinned.utf8First_eq]; exact laidMet.reads h (mem_of_get 17 rfl)) (laidMet.reads h (mem_of_get 9 (by kernel_rfl)))
theorem wd_cv (h : TL w) : CaseVar 2 caseA w := by
  have X : CaseExtra Tryz.prog Tryz.lays159_ren := ⟨by kernel_rfl, by kernel_rfl, by kernel_rfl, by kernel_rfl, by kernel_rfl, by kernel_rfl⟩
  exact caseVar_of_reads { Tryz.lays159 with } (by kernel_rfl) X (by rw [← Pinned.caseRanges_eq]; exact laidMet.reads h (mem_of_get 16 rfl))
theorem wd_er (h : TL w) : Er w := by
  refine ⟨?_, ?_⟩
  · obtain ⟨vs, h1, m, q, h2⟩ := plain_at (by kernel_rfl : Tryz.prog.globalNamed "strconv.ErrSyntax" = some 6) (by kernel_rfl : (Tryz.prog.globals[6]?).map (·.type) = some 75) (laidMet.reads h (mem_of_get 11 rfl))
    obtain ⟨m', u, v, rfl, _, _⟩ := iface_of_trod Tryz.underlying75 h2
    exact ⟨u, v, h1 0⟩
  · obtain ⟨vs, h1, m, q, h2⟩ := plain_at (by kernel_rfl : Tryz.prog.globalNamed "strconv.ErrRange" = some 7) (by kernel_rfl : (Tryz.prog.globals[7]?).map (·.type) = some 75) (laidMet.reads h (mem_of_get 10 rfl))
    obtain ⟨m', u, v, rfl, _, _⟩ := iface_of_trod Tryz.underlying75 h2
    exact ⟨u, v, h1 0⟩
theorem wd_fi {n : String} {g : Nat} {a b : Int} {c : Int} (hn : Tryz.prog.globalNamed n = some g) (hy : (Tryz.prog.globals[g]?).map (·.type) = some 165) (h : VarReads Tryz.prog w n (.agg [.lit (.int .u64 a), .lit (.int .u64 b), .lit (.int .i64 c)])) :
    w.cell? ⟨g, 0, none⟩ = some (.int .u64 a) ∧ w.cell? ⟨g, 1, none⟩ = some (.int .u64 b) ∧ w.cell? ⟨g, 2, none⟩ = some (.int .i64 c) := by
  obtain ⟨vs, h1, m, q, h2⟩ := plain_at hn hy h
  obtain ⟨m', hs⟩ := struct_at Tryz.underlying165 h2
  obtain ⟨q0, s0⟩ := hs 0 98 0 1 _ rfl rfl rfl (by kernel_rfl) _ rfl
  obtain ⟨q1, s1⟩ := hs 1 98 1 1 _ rfl rfl rfl (by kernel_rfl) _ rfl
  obtain ⟨q2, s2⟩ := hs 2 3 2 1 _ rfl rfl rfl (by kernel_rfl) _ rfl
  have e0 := rd_int Tryz.underlying98 s0
  have e1 := rd_int Tryz.underlying98 s1
  have e2 := rd_int Tryz.underlying3 s2
  exact ⟨(h1 0).trans (at_of_take e0), (h1 1).trans (at_of_take e1), (h1 2).trans (at_of_take e2)⟩
theorem wd_gl (h : TL w) : Gl w := by
  have hf := wd_fi (by kernel_rfl : Tryz.prog.globalNamed "internal/strconv.float64info" = some 11) (by kernel_rfl) (laidMet.reads h (mem_of_get 3 rfl))
  have hf9 := wd_fi (by kernel_rfl : Tryz.prog.globalNamed "internal/strconv.float32info" = some 9) (by kernel_rfl) (laidMet.reads h (mem_of_get 2 rfl))
  refine ⟨?_, ?_, hf.1, hf.2.1, hf.2.2, ?_, ?_, ?_, ?_, ?_, ?_⟩
  · obtain ⟨vs, h1, h2⟩ := array_at (by kernel_rfl : Tryz.prog.globalNamed "math/bits.deBruijn64tab" = some 19) (by kernel_rfl) Tryz.underlying200 (laidMet.reads h (mem_of_get 1 rfl))
    obtain ⟨m, d, q, h3, h4⟩ := h2 0 (by omega)
    obtain rfl : DataW.lit (.int .u8 0) = d := Option.some.inj h3
    rw [show Tryz.prog.cellsOf 5 = 1 by kernel_rfl] at h4
    have h5 := at_of_take (rd_int Tryz.underlying5 h4)
    exact lt_size_of_cell ((h1 0).trans h5)
  · intro i hi
    have hl : Go.Pinned.pow10Rows.length = 696 := rows_length
    obtain ⟨vs, h1, h2⟩ := array_at (by kernel_rfl : Tryz.prog.globalNamed "internal/strconv.pow10Tab" = some 15) (by kernel_rfl) Tryz.underlying203 (laidMet.reads h (mem_of_get 15 rfl))
    obtain ⟨m, d, q, h3, h4⟩ := h2 i (by omega)
    have he : (Go.Pinned.pow10Rows.map fun x => (DataW.agg [.lit (.int .u64 x.1), .lit (.int .u64 x.2)] : DataW Unit))[i]? = some d := h3
    rw [List.getElem?_map, List.getElem?_eq_getElem hi] at he
    obtain rfl := (Option.some.inj he)
    rw [show Tryz.prog.cellsOf 202 = 2 by kernel_rfl] at h4
    obtain ⟨m', hs⟩ := struct_at Tryz.underlying202 h4
    obtain ⟨q0, s0⟩ := hs 0 133 0 1 _ rfl rfl rfl (by kernel_rfl) _ rfl
    obtain ⟨q1, s1⟩ := hs 1 133 1 1 _ rfl rfl rfl (by kernel_rfl) _ rfl
    have e0 := rd_int Tryz.underlying133 s0
    have e1 := rd_int Tryz.underlying133 s1
    exact ⟨(h1 _).trans (at_pair (c := i * 2) (k := 0) e0 (by omega)), (h1 _).trans (at_pair (c := i * 2) (k := 1) e1 (by omega))⟩
  · obtain ⟨vs, h1, m, q, h2⟩ := plain_at (by kernel_rfl : Tryz.prog.globalNamed "internal/strconv.optimize" = some 10) (by kernel_rfl : (Tryz.prog.globals[10]?).map (·.type) = some 4) (laidMet.reads h (mem_of_get 4 rfl))
    obtain rfl := rd_bool Tryz.underlying4 h2
    exact h1 0
  · have hlo : pw10.length = 23 := by decide +kernel
    obtain ⟨R, o, c, h1, h2, h3⟩ := slice_at (es := pw10.map fun x => .lit (.float .f64 x)) (by kernel_rfl : Tryz.prog.globalNamed "internal/strconv.float64pow10" = some 14) (by kernel_rfl) Tryz.underlying198 (by decide +kernel) (by rw [List.length_map]; omega) (laidMet.reads h (mem_of_get 6 rfl))
    rw [List.length_map, hlo] at h1 h2
    have hk : ∀ k, k < 23 → w.cell? ⟨R, o + k, none⟩ = some (.float .f64 (pw10.getD k 0)) := by
      intro k hk
      have hg : pw10.getD k 0 = pw10[k] := by rw [List.getD, List.getElem?_eq_getElem (by omega)]; rfl
      obtain ⟨m, cs, q, k1, k2⟩ := h3 k _ (by rw [List.getElem?_map, List.getElem?_eq_getElem (by omega)]; rfl)
      rw [show Tryz.prog.cellsOf 37 = 1 by kernel_rfl] at k2
      obtain rfl := rd_flt Tryz.underlying37 k1
      have := k2 0 (by omega)
      rw [hg]
      rw [Nat.mul_one] at this
      exact this
    exact ⟨R, o, c, lt_size_of_cell (hk 0 (by omega)), h1, h2, hk⟩
  · have hlo : ptb.length = 9 := by decide +kernel
    obtain ⟨R, o, c, h1, h2, h3⟩ := slice_at (es := ptb.map fun x => .lit (.int .i64 ((x : Nat) : Int))) (by kernel_rfl : Tryz.prog.globalNamed "internal/strconv.powtab" = some 13) (by kernel_rfl) Tryz.underlying45 (by decide +kernel) (by rw [List.length_map]; omega) (laidMet.reads h (mem_of_get 5 rfl))
    rw [List.length_map, hlo] at h1 h2
    have hk : ∀ k, k < 9 → w.cell? ⟨R, o + k, none⟩ = some (.int .i64 (ptb.getD k 0 : Nat)) := by
      intro k hk
      have hg : ptb.getD k 0 = ptb[k] := by rw [List.getD, List.getElem?_eq_getElem (by omega)]; rfl
      obtain ⟨m, cs, q, k1, k2⟩ := h3 k _ (by rw [List.getElem?_map, List.getElem?_eq_getElem (by omega)]; rfl)
      rw [show Tryz.prog.cellsOf 3 = 1 by kernel_rfl] at k2
      obtain rfl := rd_int Tryz.underlying3 k1
      have := k2 0 (by omega)
      rw [hg]
      rw [Nat.mul_one] at this
      exact this
    exact ⟨R, o, c, lt_size_of_cell (hk 0 (by omega)), h1, h2, hk⟩
  · have hlo : Go.Pinned.cheatRows.length = 61 := by decide +kernel
    obtain ⟨R, o, c, h1, h2, h3⟩ := slice_at (es := Go.Pinned.cheatRows.map fun x => .agg [.lit (.int .i64 x.1), .lit (.string x.2)]) (by kernel_rfl : Tryz.prog.globalNamed "internal/strconv.leftcheats" = some 16) (by kernel_rfl) Tryz.underlying214 (by decide +kernel) (by rw [List.length_map]; omega) (laidMet.reads h (mem_of_get 14 rfl))
    rw [List.length_map, hlo] at h1 h2
    have hk : ∀ k (h : k < Go.Pinned.cheatRows.length), w.cell? ⟨R, o + k * 2, none⟩ = some (.int .i64 ((Go.Pinned.cheatRows[k]).1 : Nat)) ∧ w.cell? ⟨R, o + k * 2 + 1, none⟩ = some (.string ⟨(Go.Pinned.cheatRows[k]).2.toArray⟩) := by
      intro k hk
      obtain ⟨m, cs, q, k1, k2⟩ := h3 k _ (by rw [List.getElem?_map, List.getElem?_eq_getElem hk]; rfl)
      rw [show Tryz.prog.cellsOf 213 = 2 by kernel_rfl] at k2
      obtain ⟨m', hs⟩ := struct_at Tryz.underlying213 k1
      obtain ⟨q0, s0⟩ := hs 0 3 0 1 _ rfl rfl rfl (by kernel_rfl) _ rfl
      obtain ⟨q1, s1⟩ := hs 1 9 1 1 _ rfl rfl rfl (by kernel_rfl) _ rfl
      have e0 := rd_int Tryz.underlying3 s0
      have e1 := rd_str Tryz.underlying9 s1
      exact ⟨(k2 0 (by omega)).trans (at_of_take e0), (k2 1 (by omega)).trans (at_of_take e1)⟩
    exact ⟨R, o, c, lt_size_of_cell (hk 0 (by omega)).1, h1, h2, hk⟩
  · exact warm h (mem_of_get 2 rfl) (by kernel_rfl) hf9.1
  · exact warm h (mem_of_get 3 rfl) (by kernel_rfl) hf.1
theorem wd_of_laid (h : TL w) : Wd w := ⟨wd_gl h, wd_er h, wd_cv h, wd_ut h, wd_fold h⟩
end Go.Proofs.YtknjgopapbemcaaGreatDoor
