/- Proved: Rows.FnMatchCardSaid, that laws.FnMatch returns true for every cell and every filter and leaves both as they read. Conditions: the listed package-level variables start as the text of the program lays them; none other. -/
import Derived.Test.YtknjgopapbemcaaGreatDoorTie
import Derived.Test.YtknjgopapbemcaaGreatDoorCards
import Derived.Test.YtknjgopapbemcaaGreatDoorXTiTj
import Derived.Test.YtknjgopapbemcaaGreatDoorXKd
import Derived.Test.YtknjgopapbemcaaGreatDoorXWaWb
import Derived.Test.YtknjgopapbemcaaGreatDoorXWc
import Derived.ProofKit
import Derived.OpenShut
import Derived.LaidMore
import Derived.Lay
import Derived.SevenTiedAt
import Derived.Stop.Joined
/- The row of laws.FnMatch, and its card. -/
namespace Go.Proofs.YtknjgopapbemcaaGreatDoor
open Go.ChangeShapes Go.WideShapes Go.ChangeAt Go.RowKit
set_option linter.unusedVariables false
set_option maxRecDepth 100000
theorem own : ownKnob Tryz.prog.godebug = none := by kernel_rfl
theorem laid_plain (w : World) : laidMetH Tryz.prog Rows.fnMatchRow.laid w = laidMet Tryz.prog Rows.fnMatchRow.laid w := MakeChecks.laidMetH_plain _ _ _ (by kernel_rfl)
set_option maxRecDepth 100000 in
theorem witnessed (os : Os) (H : Type) (enc : TypeId × Value → H) :
    ∃ (w : World) (tape : Tape) (i : Input), w.os = os ∧ (w.forCall tape i).Shaped Tryz.checked.prog ∧ i.vars = [] ∧ Input.okWide Tryz.checked.prog (w.forCall tape i) .any w.heap.size 3 i ∧
      ((Rows.fnMatchSpec.pre enc Tryz.checked.prog Tryz.f3 [] false (w.forCall tape i).memory i.args ∧ laidMetH Tryz.prog Rows.fnMatchRow.laid (w.forCall tape i).memory) ∧ sizedMet enc Tryz.checked.prog Tryz.f3 (OpenSpec.ofChange Rows.fnMatchSpec) false (w.forCall tape i).memory i.args) ∧
      Assume.holds {} Tryz.checked.prog (lone (Frame.enter Tryz.checked.prog 3 i.args .normal) [] (w.forCall tape i)) :=
  ChangeSpec.witness_shaped (enc := enc) (C := Tryz.checked) (os := os) (X := fun w _ => laidMetH Tryz.prog Rows.fnMatchRow.laid w) false (World.laidAll Tryz.prog os Rows.fnMatchRow.laid) #[.string ⟨#[]⟩, .agg #[.int .i64 0, .int .i64 0, .int .i64 0, .string ⟨#[]⟩, .int .i64 0, .bool false]] 8 (World.laidAll_os _ _ _)
    (World.shaped_of_ZipB (by kernel_rfl) (by kernel_rfl)) (by kernel_rfl) (by kernel_rfl) (by kernel_rfl)
    (by rw [laid_plain]; exact laidMet_laidAll _ (by kernel_rfl) (by kernel_rfl))
set_option maxRecDepth 100000 in
theorem lifted (os : Os) (started : os.Started) (H : Type) (enc : TypeId × Value → H) :
    ReturnsInHanded {} Tryz.checked os 3 .any (fun w args => (Rows.fnMatchSpec.pre enc Tryz.prog Tryz.f3 [] false w args ∧ laidMetH Tryz.prog Rows.fnMatchRow.laid w) ∧ sizedMet enc Tryz.prog Tryz.f3 (OpenSpec.ofChange Rows.fnMatchSpec) false w args)
      (Rows.fnMatchSpec.post enc Tryz.prog Tryz.f3 false true false false) := by
  refine returnsInHanded_of_change_and (C := Tryz.checked) (X := fun w _ => laidMetH Tryz.prog Rows.fnMatchRow.laid w) (fun _ _ _ hh h => h.of_heap hh) own started (by kernel_rfl) Tryz.func3
    (witnessed os H enc) ?_
  intro W base args ds gs before hval0 hW _ _ hL _
  have hval : ∀ (j : Nat) t v, Tryz.f3.params[j]? = some t → args[j]? = some v → Value.okWide Tryz.prog W .any base t v := hval0
  have hW' := hW
  obtain ⟨p, q, hA0, hV, rfl, _, _⟩ := hW
  have hA : DataW.TrodAll enc Tryz.prog W 0 (fun _ => true) true Tryz.f3.params.toList args.toList ds p := hA0
  rw [Tryz.params3] at hA hval
  obtain ⟨v0, v1, d0, d1, p0, p1, rfl, rfl, rfl, h0, h1⟩ := trodAll_two hA
  obtain ⟨rfl, rfl⟩ := trodVars_none hV
  obtain ⟨c, rfl, rfl, rfl, wc⟩ := open_text (hval 0 9 _ rfl rfl) h0
  obtain ⟨num, op, k, s, n, b, rfl, rfl, rfl, w0, w1, w2, ws, w3⟩ := open_filter (hval 1 25 _ rfl rfl) h1
  simp only [List.append_nil] at hW'
  have hn : -9223372036854775808 ≤ n ∧ n ≤ 9223372036854775807 := by simpa [Lit.wf, IntKind.min, IntKind.max, IntKind.signed, IntKind.bits] using w3
  have hWd : Wd W := wd_of_laid (by have := hL; rw [laid_plain] at this; exact this)
  refine (fnMatch_any efd_ok c s num op k n b W hWd hn.1 hn.2).mono fun e W' ⟨he, hb⟩ => ?_
  subst he
  exact ⟨_, rfl, _, _, _, [], [], [], hW', trodAll_mk1 (shut_bool Tryz.underlying4 _), trodAll_mk2 (shut_text wc) (shut_filter w0 w1 w2 ws w3), rfl, hb.frame _, fun h => by cases h⟩
set_option maxRecDepth 100000 in
theorem row_holds : Rows.FnMatchSaid :=
  OpenClaim.holds_of_wide 3 Tryz.f3 rfl rfl rfl rfl rfl rfl rfl ⟨rfl, rfl, rfl, rfl, rfl⟩ rfl rfl rfl rfl rfl (by kernel_rfl) Tryz.func3 (by kernel_rfl)
    (of_decide_eq_true (by kernel_rfl)) (by unfold Func.isWrapper; first | (rw [if_pos (by decide +kernel)]; kernel_rfl) | (rw [if_neg (by decide +kernel)]; exact ⟨rfl, rfl⟩))
    (fun os started H enc _ => lifted os started H enc)
set_option maxRecDepth 100000 in
theorem fnMatch_card_holds : Rows.FnMatchCardSaid :=
  Claim7.holds_tied_plain_at .later [] [.data, .data, .widerDeep, .widerDeep, .data, .data, .data, .data, .data, .data, .sentinel, .sentinel, .data, .data, .pinned, .pinned, .pinned, .pinned] true (true, "59caaf85395c2998985e67412458542bf2a64e8c259b59fcb2a6ae331608b03a") true
    row_holds (fun _ h => by cases h) (by kernel_rfl) (fun _ h => by cases h) fnMatch_row_tie rfl ⟨rfl, rfl⟩ (by kernel_rfl) rfl
    (fun f fn hf hfn => by
      obtain rfl : f = 3 := Option.some.inj ((show Tryz.prog.funcNamed "pub-pinstripe/laws.FnMatch" = some 3 by kernel_rfl).symm.trans hf) |>.symm
      obtain rfl : fn = Tryz.f3 := (Option.some.inj (Tryz.func3.symm.trans hfn)).symm
      exact ⟨by kernel_rfl, fun j t ht => by
        rw [Tryz.params3] at ht
        have hm : t ∈ [9, 25] := by simpa using Array.mem_of_getElem? ht
        have hall : ([9, 25].all fun u => !Tryz.prog.wantsStandIn u) = true := by kernel_rfl
        exact (show Tryz.prog.wantsStandIn t = false by simpa using List.all_eq_true.1 hall t hm)⟩)
    (by kernel_rfl)
#print axioms fnMatch_card_holds
end Go.Proofs.YtknjgopapbemcaaGreatDoor
