/- For every slice of strings, int, string and bool FnRaiseErrorPushesFormatVerbatim returns true and leaves its arguments as they were; no condition (fmt is not met on the road). -/
import Derived.Test.YtkoiadebacdklaaGreatFmtCommon
import Derived.Test.YtkoiadebacdklaaGreatFmtArg2
import Derived.Test.YtkoiadebacdklaaGreatFmtRac
import Derived.Test.YtkoiadebacdklaaGreatFmtStart4
import Derived.Test.YtkoiadebacdklaaGreatFmtStart6
import Derived.Test.YtkoiadebacdklaaGreatFmtTie
import Derived.SevenTiedAt
import Derived.Carry
namespace Go.Proofs.YtkoiadebacdklaaGreatFmt
open Go.ChangeShapes Go.WideShapes Go.ChangeAt Go.RowKit
open Go.Extern.Stop Go.Stop Go.Extern
open Go.ChangeMaps (open_string shut_string)

set_option maxRecDepth 100000 in
set_option maxHeartbeats 2000000 in
theorem push_lifted (os : Os) (started : os.Started) (H : Type) (enc : TypeId × Value → H) :
    ReturnsInTold none {} Tryz.checked os 3 .any Input.okWide ((OpenSpec.ofChange Rows.fnRaiseErrorPushesFormatVerbatimSpec).preRow enc Tryz.prog Tryz.f3 [] false Rows.fnRaiseErrorPushesFormatVerbatimRow.laid) (fun F => ((OpenSpec.ofChange Rows.fnRaiseErrorPushesFormatVerbatimSpec).at F).post enc Tryz.prog Tryz.f3 false true false false) (aloneAtReturn Tryz.prog) nothingAlways := by
  refine returnsInTold_of_row (C := Tryz.checked) (s := OpenSpec.ofChange Rows.fnRaiseErrorPushesFormatVerbatimSpec) Tryz.mayEnter Tryz.own started (by as_aux_lemma => kernel_rfl) Tryz.func3
    (witness_laid (enc := enc) (C := Tryz.checked) false (startW os) #[.slice none 0 0, .int .i64 0, .string ⟨#[]⟩, .bool false] 8 (start_shaped os _) (by as_aux_lemma => kernel_rfl) (by as_aux_lemma => kernel_rfl) (by as_aux_lemma => kernel_rfl) rfl (start_laidH os _)) ?_
  intro F W base args ds gs before _ _ hval0 hW _ _ hsz0 _ _
  have hval : ∀ (j : Nat) t v, Tryz.f3.params[j]? = some t → args[j]? = some v → Value.okWide Tryz.prog W .any base t v := hval0
  have hW' := hW
  obtain ⟨p, q, hA0, hV, rfl, _, _⟩ := hW
  have hA : DataW.TrodAll enc Tryz.prog W 0 (fun _ => true) true Tryz.f3.params.toList args.toList ds p := hA0
  rw [Tryz.params3] at hA hval
  obtain ⟨rfl, rfl⟩ := trodVars_none hV
  obtain ⟨v0, v1, v2, v3, d0, d1, d2, d3, p0, p1, p2, p3, rfl, rfl, rfl, h0, h1, h2, h3⟩ := trodAll_four hA
  obtain ⟨a0, n0, c0, rfl⟩ := okWide_slice Tryz.underlying22 (hval 0 22 v0 rfl rfl)
  obtain ⟨fr, rfl, _, _, wfr⟩ := open_int Tryz.underlying3 (hval 1 3 v1 rfl rfl) h1
  obtain ⟨fm, rfl, rfl, rfl, ws⟩ := open_string Tryz.underlying9 (hval 2 9 v2 rfl rfl) h2
  obtain ⟨g, rfl, _, _⟩ := open_bool Tryz.underlying4 (hval 3 4 v3 rfl rfl) h3
  obtain ⟨m0, s, e0⟩ := strs_arg h0
  have fin : Calls Tryz.prog 3 #[.slice a0 n0 c0, .int .i64 fr, .string fm, .bool g] W (Good W) := by
    by_cases hk : n0 ≤ 4096
    · exact push_in a0 n0 c0 fr fm g s W hk e0
    · exact push_long a0 n0 c0 fr fm g s W m0 hk e0
  exact fin.mono fun e W' ⟨he, hb⟩ => ⟨_, he, law_ends Tryz.laidOut (by as_aux_lemma => kernel_rfl) rfl Tryz.underlying4 rfl hW' rfl rfl rfl hb⟩

set_option maxHeartbeats 2000000 in
theorem push_holds : Rows.FnRaiseErrorPushesFormatVerbatimToldSaid :=
  Claim7.holds_of_told_tied_any_at .later 3 Tryz.f3 "fmt.Sprintf, its operands' methods called" ["fmt.Sprint"] [] _ _ _ _ _ (by as_aux_lemma => kernel_rfl) rfl rfl rfl Tryz.laidOut Tryz.rowed rfl ⟨rfl, rfl, rfl, rfl, rfl, rfl, rfl⟩ rfl rfl (by as_aux_lemma => kernel_rfl) (by as_aux_lemma => kernel_rfl) Tryz.func3 (by as_aux_lemma => kernel_rfl)
    (of_decide_eq_true (by as_aux_lemma => kernel_rfl)) (by unfold Func.isWrapper; rw [if_neg (of_decide_eq_false (by as_aux_lemma => kernel_rfl))]; exact ⟨rfl, rfl⟩) Tryz.stops.symm rfl Tryz.stopKnobs.symm Tryz.worded
    (by as_aux_lemma => kernel_rfl) (by as_aux_lemma => kernel_rfl) (by as_aux_lemma => kernel_rfl) (by as_aux_lemma => kernel_rfl) (by as_aux_lemma => kernel_rfl) (by as_aux_lemma => kernel_rfl) (by as_aux_lemma => kernel_rfl) (by as_aux_lemma => kernel_rfl) (by as_aux_lemma => kernel_rfl) rfl (by as_aux_lemma => kernel_rfl) rfl rfl
    rfl rfl
    rfl Tryz.main_is Tryz.looked (by as_aux_lemma => kernel_rfl) (by decide) (by as_aux_lemma => kernel_rfl) fnRaiseErrorPushesFormatVerbatim_row_tie
    (OpenClaim.moreEntering_of (by as_aux_lemma => kernel_rfl) (by as_aux_lemma => kernel_rfl) (by as_aux_lemma => kernel_rfl) (by as_aux_lemma => kernel_rfl) (by as_aux_lemma => kernel_rfl) (by as_aux_lemma => kernel_rfl) (by as_aux_lemma => kernel_rfl) (by as_aux_lemma => kernel_rfl) (by as_aux_lemma => kernel_rfl) (by as_aux_lemma => kernel_rfl))
    ⟨_, WideRow.started_initial, Tryz.quiet _⟩
    (fun os started _ H enc _ => push_lifted os started H enc)

#print axioms push_holds

end Go.Proofs.YtkoiadebacdklaaGreatFmt
