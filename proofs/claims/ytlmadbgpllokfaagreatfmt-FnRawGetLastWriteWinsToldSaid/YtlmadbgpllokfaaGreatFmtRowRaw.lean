/- For all slices of operations FnRawGetLastWriteWins returns true and leaves its arguments as they were; no condition (fmt is not met on the road). -/
import Derived.Test.YtlmadbgpllokfaaGreatFmtCommon
import Derived.Test.YtlmadbgpllokfaaGreatFmtArgR
import Derived.Test.YtlmadbgpllokfaaGreatFmtOpl
import Derived.Test.YtlmadbgpllokfaaGreatFmtStart4
import Derived.Test.YtlmadbgpllokfaaGreatFmtStart6
import Derived.Test.YtlmadbgpllokfaaGreatFmtTie
import Derived.SevenTiedAt
import Derived.Carry
namespace Go.Proofs.YtlmadbgpllokfaaGreatFmt
open Go.ChangeShapes Go.WideShapes Go.ChangeAt Go.RowKit
open Go.Extern.Stop Go.Stop Go.Extern
open Go.ChangeMaps (open_string shut_string)

set_option maxRecDepth 100000 in
set_option maxHeartbeats 2000000 in
theorem raw_lifted (os : Os) (started : os.Started) (H : Type) (enc : TypeId × Value → H) :
    ReturnsInTold none {} Tryz.checked os 3 .any Input.okWide ((OpenSpec.ofChange Rows.fnRawGetLastWriteWinsSpec).preRow enc Tryz.prog Tryz.f3 [] false Rows.fnRawGetLastWriteWinsRow.laid) (fun F => ((OpenSpec.ofChange Rows.fnRawGetLastWriteWinsSpec).at F).post enc Tryz.prog Tryz.f3 false true false false) (aloneAtReturn Tryz.prog) nothingAlways := by
  refine returnsInTold_of_row (C := Tryz.checked) (s := OpenSpec.ofChange Rows.fnRawGetLastWriteWinsSpec) Tryz.mayEnter Tryz.own started (by as_aux_lemma => kernel_rfl) Tryz.func3
    (witness_laid (enc := enc) (C := Tryz.checked) false (startW os) #[.slice none 0 0, .slice none 0 0] 8 (start_shaped os _) (by as_aux_lemma => kernel_rfl) (by as_aux_lemma => kernel_rfl) (by as_aux_lemma => kernel_rfl) rfl (start_laidH os _)) ?_
  intro F W base args ds gs before _ _ hval0 hW _ _ hsz0 _ _
  have hval : ∀ (j : Nat) t v, Tryz.f3.params[j]? = some t → args[j]? = some v → Value.okWide Tryz.prog W .any base t v := hval0
  have hW' := hW
  obtain ⟨p, q, hA0, hV, rfl, _, _⟩ := hW
  have hA : DataW.TrodAll enc Tryz.prog W 0 (fun _ => true) true Tryz.f3.params.toList args.toList ds p := hA0
  rw [Tryz.params3] at hA hval
  obtain ⟨rfl, rfl⟩ := trodVars_none hV
  obtain ⟨v0, v1, d0, d1, p0, p1, rfl, rfl, rfl, h0, h1⟩ := trodAll_two hA
  obtain ⟨a0, n0, c0, rfl⟩ := okWide_slice Tryz.underlying22 (hval 0 22 v0 rfl rfl)
  obtain ⟨a1, n1, c1, rfl⟩ := okWide_slice Tryz.underlying22 (hval 1 22 v1 rfl rfl)
  obtain ⟨m0, f, e0⟩ := ops_arg h0
  obtain ⟨m1, g, e1⟩ := ops_arg h1
  have fin : Calls Tryz.prog 3 #[.slice a0 n0 c0, .slice a1 n1 c1] W (Good W) := by
    by_cases hl : n0 ≤ 4096 ∧ n1 ≤ 4096
    · exact raw_in a0 a1 n0 c0 n1 c1 f g W hl.1 hl.2 e0 e1
    · exact raw_long a0 a1 n0 c0 n1 c1 f g W m0 m1 hl e0 e1
  exact fin.mono fun e W' ⟨he, hb⟩ => ⟨_, he, law_ends Tryz.laidOut (by as_aux_lemma => kernel_rfl) rfl Tryz.underlying4 rfl hW' rfl rfl rfl hb⟩

set_option maxHeartbeats 2000000 in
theorem raw_holds : Rows.FnRawGetLastWriteWinsToldSaid :=
  Claim7.holds_of_told_tied_any_at .later 3 Tryz.f3 "fmt.Sprintf, its operands' methods called" ["fmt.Sprint"] [] _ _ _ _ _ (by as_aux_lemma => kernel_rfl) rfl rfl rfl Tryz.laidOut Tryz.rowed rfl ⟨rfl, rfl, rfl, rfl, rfl, rfl, rfl⟩ rfl rfl (by as_aux_lemma => kernel_rfl) (by as_aux_lemma => kernel_rfl) Tryz.func3 (by as_aux_lemma => kernel_rfl)
    (of_decide_eq_true (by as_aux_lemma => kernel_rfl)) (by unfold Func.isWrapper; rw [if_neg (of_decide_eq_false (by as_aux_lemma => kernel_rfl))]; exact ⟨rfl, rfl⟩) Tryz.stops.symm rfl Tryz.stopKnobs.symm Tryz.worded
    (by as_aux_lemma => kernel_rfl) (by as_aux_lemma => kernel_rfl) (by as_aux_lemma => kernel_rfl) (by as_aux_lemma => kernel_rfl) (by as_aux_lemma => kernel_rfl) (by as_aux_lemma => kernel_rfl) (by as_aux_lemma => kernel_rfl) (by as_aux_lemma => kernel_rfl) (by as_aux_lemma => kernel_rfl) rfl (by as_aux_lemma => kernel_rfl) rfl rfl
    rfl rfl
    rfl Tryz.main_is Tryz.looked (by as_aux_lemma => kernel_rfl) (by decide) (by as_aux_lemma => kernel_rfl) fnRawGetLastWriteWins_row_tie
    (OpenClaim.moreEntering_of (by as_aux_lemma => kernel_rfl) (by as_aux_lemma => kernel_rfl) (by as_aux_lemma => kernel_rfl) (by as_aux_lemma => kernel_rfl) (by as_aux_lemma => kernel_rfl) (by as_aux_lemma => kernel_rfl) (by as_aux_lemma => kernel_rfl) (by as_aux_lemma => kernel_rfl) (by as_aux_lemma => kernel_rfl) (by as_aux_lemma => kernel_rfl))
    ⟨_, WideRow.started_initial, Tryz.quiet _⟩
    (fun os started _ H enc _ => raw_lifted os started H enc)

#print axioms raw_holds

end Go.Proofs.YtlmadbgpllokfaaGreatFmt
