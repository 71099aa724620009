/- For every slice of strings, slice of int, int, bool and string FnRaiseErrorClosesUpvaluesUnlessHandled returns true and leaves its arguments as they were; no condition (fmt is not met on the road). -/
import Derived.Test.YtkoiadebacdklaaGreatFmtCommon
import Derived.Test.YtkoiadebacdklaaGreatFmtArg2
import Derived.Test.YtkoiadebacdklaaGreatFmtArg5
import Derived.Test.YtkoiadebacdklaaGreatFmtRad
import Derived.Test.YtkoiadebacdklaaGreatFmtStart4
import Derived.Test.YtkoiadebacdklaaGreatFmtStart6
import Derived.Test.YtkoiadebacdklaaGreatFmtTie
import Derived.SevenTiedAt
import Derived.Carry
namespace Go.Proofs.YtkoiadebacdklaaGreatFmt
open Go.ChangeShapes Go.WideShapes Go.ChangeAt Go.RowKit
open Go.Extern.Stop Go.Stop Go.Extern
open Go.ChangeMaps (open_string shut_string)

set_option maxRecDepth 100000 in
set_option maxHeartbeats 2000000 in
theorem shut_lifted (os : Os) (started : os.Started) (H : Type) (enc : TypeId × Value → H) :
    ReturnsInTold none {} Tryz.checked os 5 .any Input.okWide ((OpenSpec.ofChange Rows.fnRaiseErrorClosesUpvaluesUnlessHandledSpec).preRow enc Tryz.prog Tryz.f5 [] false Rows.fnRaiseErrorClosesUpvaluesUnlessHandledRow.laid) (fun F => ((OpenSpec.ofChange Rows.fnRaiseErrorClosesUpvaluesUnlessHandledSpec).at F).post enc Tryz.prog Tryz.f5 false true false false) (aloneAtReturn Tryz.prog) nothingAlways := by
  refine returnsInTold_of_row (C := Tryz.checked) (s := OpenSpec.ofChange Rows.fnRaiseErrorClosesUpvaluesUnlessHandledSpec) Tryz.mayEnter Tryz.own started (by as_aux_lemma => kernel_rfl) Tryz.func5
    (witness_laid (enc := enc) (C := Tryz.checked) false (startW os) #[.slice none 0 0, .slice none 0 0, .int .i64 0, .bool false, .string ⟨#[]⟩] 8 (start_shaped os _) (by as_aux_lemma => kernel_rfl) (by as_aux_lemma => kernel_rfl) (by as_aux_lemma => kernel_rfl) rfl (start_laidH os _)) ?_
  intro F W base args ds gs before _ _ hval0 hW _ _ hsz0 _ _
  have hval : ∀ (j : Nat) t v, Tryz.f5.params[j]? = some t → args[j]? = some v → Value.okWide Tryz.prog W .any base t v := hval0
  have hW' := hW
  obtain ⟨p, q, hA0, hV, rfl, _, _⟩ := hW
  have hA : DataW.TrodAll enc Tryz.prog W 0 (fun _ => true) true Tryz.f5.params.toList args.toList ds p := hA0
  rw [Tryz.params5] at hA hval
  obtain ⟨rfl, rfl⟩ := trodVars_none hV
  obtain ⟨v0, v1, v2, v3, v4, d0, d1, d2, d3, d4, p0, p1, p2, p3, p4, rfl, rfl, rfl, h0, h1, h2, h3, h4⟩ := trodAll_five hA
  obtain ⟨a0, n0, c0, rfl⟩ := okWide_slice Tryz.underlying22 (hval 0 22 v0 rfl rfl)
  obtain ⟨a1, n1, c1, rfl⟩ := okWide_slice Tryz.underlying47 (hval 1 47 v1 rfl rfl)
  obtain ⟨lb, rfl, _, _, wlb⟩ := open_int Tryz.underlying3 (hval 2 3 v2 rfl rfl) h2
  obtain ⟨g, rfl, _, _⟩ := open_bool Tryz.underlying4 (hval 3 4 v3 rfl rfl) h3
  obtain ⟨fm, rfl, rfl, rfl, ws⟩ := open_string Tryz.underlying9 (hval 4 9 v4 rfl rfl) h4
  obtain ⟨m0, s, e0⟩ := strs_arg h0
  obtain ⟨m1, x, _, e1⟩ := ints_arg h1
  have fin : Calls Tryz.prog 5 #[.slice a0 n0 c0, .slice a1 n1 c1, .int .i64 lb, .bool g, .string fm] W (Good W) := by
    by_cases hl : n0 ≤ 4096 ∧ n1 ≤ 4096
    · exact shut_in a0 a1 n0 c0 n1 c1 lb g fm s x W hl.1 hl.2 e0 e1
    · exact shut_long a0 a1 n0 c0 n1 c1 lb g fm s W m0 m1 hl e0
  exact fin.mono fun e W' ⟨he, hb⟩ => ⟨_, he, law_ends Tryz.laidOut (by as_aux_lemma => kernel_rfl) rfl Tryz.underlying4 rfl hW' rfl rfl rfl hb⟩

set_option maxHeartbeats 2000000 in
theorem shut_holds : Rows.FnRaiseErrorClosesUpvaluesUnlessHandledToldSaid :=
  Claim7.holds_of_told_tied_any_at .later 5 Tryz.f5 "fmt.Sprintf, its operands' methods called" ["fmt.Sprint"] [] _ _ _ _ _ (by as_aux_lemma => kernel_rfl) rfl rfl rfl Tryz.laidOut Tryz.rowed rfl ⟨rfl, rfl, rfl, rfl, rfl, rfl, rfl⟩ rfl rfl (by as_aux_lemma => kernel_rfl) (by as_aux_lemma => kernel_rfl) Tryz.func5 (by as_aux_lemma => kernel_rfl)
    (of_decide_eq_true (by as_aux_lemma => kernel_rfl)) (by unfold Func.isWrapper; rw [if_neg (of_decide_eq_false (by as_aux_lemma => kernel_rfl))]; exact ⟨rfl, rfl⟩) Tryz.stops.symm rfl Tryz.stopKnobs.symm Tryz.worded
    (by as_aux_lemma => kernel_rfl) (by as_aux_lemma => kernel_rfl) (by as_aux_lemma => kernel_rfl) (by as_aux_lemma => kernel_rfl) (by as_aux_lemma => kernel_rfl) (by as_aux_lemma => kernel_rfl) (by as_aux_lemma => kernel_rfl) (by as_aux_lemma => kernel_rfl) (by as_aux_lemma => kernel_rfl) rfl (by as_aux_lemma => kernel_rfl) rfl rfl
    rfl rfl
    rfl Tryz.main_is Tryz.looked (by as_aux_lemma => kernel_rfl) (by decide) (by as_aux_lemma => kernel_rfl) fnRaiseErrorClosesUpvaluesUnlessHandled_row_tie
    (OpenClaim.moreEntering_of (by as_aux_lemma => kernel_rfl) (by as_aux_lemma => kernel_rfl) (by as_aux_lemma => kernel_rfl) (by as_aux_lemma => kernel_rfl) (by as_aux_lemma => kernel_rfl) (by as_aux_lemma => kernel_rfl) (by as_aux_lemma => kernel_rfl) (by as_aux_lemma => kernel_rfl) (by as_aux_lemma => kernel_rfl) (by as_aux_lemma => kernel_rfl))
    ⟨_, WideRow.started_initial, Tryz.quiet _⟩
    (fun os started _ H enc _ => shut_lifted os started H enc)

#print axioms shut_holds

end Go.Proofs.YtkoiadebacdklaaGreatFmt
