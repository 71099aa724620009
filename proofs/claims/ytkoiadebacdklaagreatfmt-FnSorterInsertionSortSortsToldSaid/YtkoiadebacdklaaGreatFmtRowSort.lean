/- For every slice of floats FnSorterInsertionSortSorts returns true and leaves its argument as it was; no condition (fmt is not met on the road). -/
import Derived.Test.YtkoiadebacdklaaGreatFmtCommon
import Derived.Test.YtkoiadebacdklaaGreatFmtArgF
import Derived.Test.YtkoiadebacdklaaGreatFmtSoc
import Derived.Test.YtkoiadebacdklaaGreatFmtStart4
import Derived.Test.YtkoiadebacdklaaGreatFmtStart6
import Derived.Test.YtkoiadebacdklaaGreatFmtTie
import Derived.SevenTiedAt
import Derived.Carry
namespace Go.Proofs.YtkoiadebacdklaaGreatFmt
open Go.ChangeShapes Go.WideShapes Go.ChangeAt Go.RowKit
open Go.Extern.Stop Go.Stop Go.Extern
open Go.ChangeMaps (open_string shut_string)

set_option maxRecDepth 100000 in
set_option maxHeartbeats 2000000 in
theorem sort_lifted (os : Os) (started : os.Started) (H : Type) (enc : TypeId × Value → H) :
    ReturnsInTold none {} Tryz.checked os 8 .any Input.okWide ((OpenSpec.ofChange Rows.fnSorterInsertionSortSortsSpec).preRow enc Tryz.prog Tryz.f8 [] false Rows.fnSorterInsertionSortSortsRow.laid) (fun F => ((OpenSpec.ofChange Rows.fnSorterInsertionSortSortsSpec).at F).post enc Tryz.prog Tryz.f8 false true false false) (aloneAtReturn Tryz.prog) nothingAlways := by
  refine returnsInTold_of_row (C := Tryz.checked) (s := OpenSpec.ofChange Rows.fnSorterInsertionSortSortsSpec) Tryz.mayEnter Tryz.own started (by as_aux_lemma => kernel_rfl) Tryz.func8
    (witness_laid (enc := enc) (C := Tryz.checked) false (startW os) #[.slice none 0 0] 8 (start_shaped os _) (by as_aux_lemma => kernel_rfl) (by as_aux_lemma => kernel_rfl) (by as_aux_lemma => kernel_rfl) rfl (start_laidH os _)) ?_
  intro F W base args ds gs before _ _ hval0 hW _ _ hsz0 _ _
  have hval : ∀ (j : Nat) t v, Tryz.f8.params[j]? = some t → args[j]? = some v → Value.okWide Tryz.prog W .any base t v := hval0
  have hW' := hW
  obtain ⟨p, q, hA0, hV, rfl, _, _⟩ := hW
  have hA : DataW.TrodAll enc Tryz.prog W 0 (fun _ => true) true Tryz.f8.params.toList args.toList ds p := hA0
  rw [Tryz.params8] at hA hval
  obtain ⟨rfl, rfl⟩ := trodVars_none hV
  obtain ⟨v0, d0, rfl, rfl, h0⟩ := trodAll_one hA
  obtain ⟨a0, n0, c0, rfl⟩ := okWide_slice Tryz.underlying85 (hval 0 85 v0 rfl rfl)
  obtain ⟨m0, f, e0⟩ := flos_arg h0
  have fin : Calls Tryz.prog 8 #[.slice a0 n0 c0] W (Good W) := by
    by_cases hk : n0 ≤ 512
    · exact sort_in a0 n0 c0 f W hk e0
    · exact sort_long a0 n0 c0 W m0 hk
  exact fin.mono fun e W' ⟨he, hb⟩ => ⟨_, he, law_ends Tryz.laidOut (by as_aux_lemma => kernel_rfl) rfl Tryz.underlying4 rfl hW' rfl rfl rfl hb⟩

set_option maxHeartbeats 2000000 in
theorem sort_holds : Rows.FnSorterInsertionSortSortsToldSaid :=
  Claim7.holds_of_told_tied_any_at .later 8 Tryz.f8 "fmt.Sprintf, its operands' methods called" ["fmt.Sprint"] [] _ _ _ _ _ (by as_aux_lemma => kernel_rfl) rfl rfl rfl Tryz.laidOut Tryz.rowed rfl ⟨rfl, rfl, rfl, rfl, rfl, rfl, rfl⟩ rfl rfl (by as_aux_lemma => kernel_rfl) (by as_aux_lemma => kernel_rfl) Tryz.func8 (by as_aux_lemma => kernel_rfl)
    (of_decide_eq_true (by as_aux_lemma => kernel_rfl)) (by unfold Func.isWrapper; rw [if_neg (of_decide_eq_false (by as_aux_lemma => kernel_rfl))]; exact ⟨rfl, rfl⟩) Tryz.stops.symm rfl Tryz.stopKnobs.symm Tryz.worded
    (by as_aux_lemma => kernel_rfl) (by as_aux_lemma => kernel_rfl) (by as_aux_lemma => kernel_rfl) (by as_aux_lemma => kernel_rfl) (by as_aux_lemma => kernel_rfl) (by as_aux_lemma => kernel_rfl) (by as_aux_lemma => kernel_rfl) (by as_aux_lemma => kernel_rfl) (by as_aux_lemma => kernel_rfl) rfl (by as_aux_lemma => kernel_rfl) rfl rfl
    rfl rfl
    rfl Tryz.main_is Tryz.looked (by as_aux_lemma => kernel_rfl) (by decide) (by as_aux_lemma => kernel_rfl) fnSorterInsertionSortSorts_row_tie
    (OpenClaim.moreEntering_of (by as_aux_lemma => kernel_rfl) (by as_aux_lemma => kernel_rfl) (by as_aux_lemma => kernel_rfl) (by as_aux_lemma => kernel_rfl) (by as_aux_lemma => kernel_rfl) (by as_aux_lemma => kernel_rfl) (by as_aux_lemma => kernel_rfl) (by as_aux_lemma => kernel_rfl) (by as_aux_lemma => kernel_rfl) (by as_aux_lemma => kernel_rfl))
    ⟨_, WideRow.started_initial, Tryz.quiet _⟩
    (fun os started _ H enc _ => sort_lifted os started H enc)

#print axioms sort_holds

end Go.Proofs.YtkoiadebacdklaaGreatFmt
