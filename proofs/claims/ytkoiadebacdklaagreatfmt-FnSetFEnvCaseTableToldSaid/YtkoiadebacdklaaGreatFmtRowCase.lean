/- For all ints, strings and floats FnSetFEnvCaseTable returns true; no condition (fmt is not met on the road). -/
import Derived.Test.YtkoiadebacdklaaGreatFmtCommon
import Derived.Test.YtkoiadebacdklaaGreatFmtFed
import Derived.Test.YtkoiadebacdklaaGreatFmtStart4
import Derived.Test.YtkoiadebacdklaaGreatFmtStart6
import Derived.Test.YtkoiadebacdklaaGreatFmtTie
import Derived.SevenTiedAt
import Derived.Carry
import Derived.Laws.Cover2
namespace Go.Proofs.YtkoiadebacdklaaGreatFmt
open Go.ChangeShapes Go.WideShapes Go.ChangeAt Go.RowKit
open Go.Extern.Stop Go.Stop Go.Extern
open Go.ChangeMaps (open_string shut_string)

set_option maxRecDepth 100000 in
set_option maxHeartbeats 2000000 in
theorem case_lifted (os : Os) (started : os.Started) (H : Type) (enc : TypeId × Value → H) :
    ReturnsInTold none {} Tryz.checked os 10 .any Input.okWide ((OpenSpec.ofChange Rows.fnSetFEnvCaseTableSpec).preRow enc Tryz.prog Tryz.f10 [] false Rows.fnSetFEnvCaseTableRow.laid) (fun F => ((OpenSpec.ofChange Rows.fnSetFEnvCaseTableSpec).at F).post enc Tryz.prog Tryz.f10 false true false false) (aloneAtReturn Tryz.prog) nothingAlways := by
  refine returnsInTold_of_row (C := Tryz.checked) (s := OpenSpec.ofChange Rows.fnSetFEnvCaseTableSpec) Tryz.mayEnter Tryz.own started (by as_aux_lemma => kernel_rfl) Tryz.func10
    (witness_laid (enc := enc) (C := Tryz.checked) false (startW os) #[.int .i64 0, .string ⟨#[]⟩, .float .f64 0] 8 (start_shaped os _) (by as_aux_lemma => kernel_rfl) (by as_aux_lemma => kernel_rfl) (by as_aux_lemma => kernel_rfl) rfl (start_laidH os _)) ?_
  intro F W base args ds gs before _ _ hval0 hW _ _ hsz0 _ _
  have hval : ∀ (j : Nat) t v, Tryz.f10.params[j]? = some t → args[j]? = some v → Value.okWide Tryz.prog W .any base t v := hval0
  have hW' := hW
  obtain ⟨p, q, hA0, hV, rfl, _, _⟩ := hW
  have hA : DataW.TrodAll enc Tryz.prog W 0 (fun _ => true) true Tryz.f10.params.toList args.toList ds p := hA0
  rw [Tryz.params10] at hA hval
  obtain ⟨rfl, rfl⟩ := trodVars_none hV
  obtain ⟨v0, v1, v2, d0, d1, d2, p0, p1, p2, rfl, rfl, rfl, h0, h1, h2⟩ := trodAll_three hA
  obtain ⟨kd, rfl, _, _, wkd⟩ := open_int Tryz.underlying3 (hval 0 3 v0 rfl rfl) h0
  obtain ⟨s, rfl, rfl, rfl, ws⟩ := open_string Tryz.underlying9 (hval 1 9 v1 rfl rfl) h1
  obtain ⟨x, rfl, _, _⟩ := open_float Tryz.underlying87 (hval 2 87 v2 rfl rfl) h2
  have fin : Calls Tryz.prog 10 #[.int .i64 kd, .string s, .float .f64 x] W (Good W) := by
    by_cases hk : s.size ≤ 1048576
    · exact case_in kd s x W hk
    · exact case_long kd s x W hk
  exact fin.mono fun e W' ⟨he, hb⟩ => ⟨_, he, law_ends Tryz.laidOut (by as_aux_lemma => kernel_rfl) rfl Tryz.underlying4 rfl hW' rfl rfl rfl hb⟩

set_option maxHeartbeats 2000000 in
theorem case_holds : Rows.FnSetFEnvCaseTableToldSaid :=
  Claim7.holds_of_told_tied_any_at .later 10 Tryz.f10 "fmt.Sprintf, its operands' methods called" ["fmt.Sprint"] [] _ _ _ _ _ (by as_aux_lemma => kernel_rfl) rfl rfl rfl Tryz.laidOut Tryz.rowed rfl ⟨rfl, rfl, rfl, rfl, rfl, rfl, rfl⟩ rfl rfl (by as_aux_lemma => kernel_rfl) (by as_aux_lemma => kernel_rfl) Tryz.func10 (by as_aux_lemma => kernel_rfl)
    (of_decide_eq_true (by as_aux_lemma => kernel_rfl)) (by unfold Func.isWrapper; rw [if_neg (of_decide_eq_false (by as_aux_lemma => kernel_rfl))]; exact ⟨rfl, rfl⟩) Tryz.stops.symm rfl Tryz.stopKnobs.symm Tryz.worded
    (by as_aux_lemma => kernel_rfl) (by as_aux_lemma => kernel_rfl) (by as_aux_lemma => kernel_rfl) (by as_aux_lemma => kernel_rfl) (by as_aux_lemma => kernel_rfl) (by as_aux_lemma => kernel_rfl) (by as_aux_lemma => kernel_rfl) (by as_aux_lemma => kernel_rfl) (by as_aux_lemma => kernel_rfl) rfl (by as_aux_lemma => kernel_rfl) rfl rfl
    rfl rfl
    rfl Tryz.main_is Tryz.looked (by as_aux_lemma => kernel_rfl) (by decide) (by as_aux_lemma => kernel_rfl) fnSetFEnvCaseTable_row_tie
    (OpenClaim.moreEntering_of (by as_aux_lemma => kernel_rfl) (by as_aux_lemma => kernel_rfl) (by as_aux_lemma => kernel_rfl) (by as_aux_lemma => kernel_rfl) (by as_aux_lemma => kernel_rfl) (by as_aux_lemma => kernel_rfl) (by as_aux_lemma => kernel_rfl) (by as_aux_lemma => kernel_rfl) (by as_aux_lemma => kernel_rfl) (by as_aux_lemma => kernel_rfl))
    ⟨_, WideRow.started_initial, Tryz.quiet _⟩
    (fun os started _ H enc _ => case_lifted os started H enc)

#print axioms case_holds

end Go.Proofs.YtkoiadebacdklaaGreatFmt
