/- For all eight slices (flags, numbers, texts, values, deletions; flags, numbers and texts of probes) FnSetTablePlainLastWrite returns true and leaves its arguments as they were; no condition (fmt is not met on the road). -/
import Derived.Test.YtlmadbgpllokfaaGreatFmtCommon
import Derived.Test.YtlmadbgpllokfaaGreatFmtArg2
import Derived.Test.YtlmadbgpllokfaaGreatFmtArgF
import Derived.Test.YtlmadbgpllokfaaGreatFmtArg8
import Derived.Test.YtlmadbgpllokfaaGreatFmtStl
import Derived.Test.YtlmadbgpllokfaaGreatFmtStart4
import Derived.Test.YtlmadbgpllokfaaGreatFmtStart6
import Derived.Test.YtlmadbgpllokfaaGreatFmtTie
import Derived.SevenTiedAt
import Derived.Carry
namespace Go.Proofs.YtlmadbgpllokfaaGreatFmt
open Go.ChangeShapes Go.WideShapes Go.ChangeAt Go.RowKit
open Go.Extern.Stop Go.Stop Go.Extern
open Go.ChangeMaps (open_string shut_string)

set_option maxRecDepth 100000 in
set_option maxHeartbeats 2000000 in
theorem stl_lifted (os : Os) (started : os.Started) (H : Type) (enc : TypeId × Value → H) :
    ReturnsInTold none {} Tryz.checked os 6 .any Input.okWide ((OpenSpec.ofChange Rows.fnSetTablePlainLastWriteSpec).preRow enc Tryz.prog Tryz.f6 [] false Rows.fnSetTablePlainLastWriteRow.laid) (fun F => ((OpenSpec.ofChange Rows.fnSetTablePlainLastWriteSpec).at F).post enc Tryz.prog Tryz.f6 false true false false) (aloneAtReturn Tryz.prog) nothingAlways := by
  refine returnsInTold_of_row (C := Tryz.checked) (s := OpenSpec.ofChange Rows.fnSetTablePlainLastWriteSpec) Tryz.mayEnter Tryz.own started (by as_aux_lemma => kernel_rfl) Tryz.func6
    (witness_laid (enc := enc) (C := Tryz.checked) false (startW os) #[.slice none 0 0, .slice none 0 0, .slice none 0 0, .slice none 0 0, .slice none 0 0, .slice none 0 0, .slice none 0 0, .slice none 0 0] 8 (start_shaped os _) (by as_aux_lemma => kernel_rfl) (by as_aux_lemma => kernel_rfl) (by as_aux_lemma => kernel_rfl) rfl (start_laidH os _)) ?_
  intro F W base args ds gs before _ _ hval0 hW _ _ hsz0 _ _
  have hval : ∀ (j : Nat) t v, Tryz.f6.params[j]? = some t → args[j]? = some v → Value.okWide Tryz.prog W .any base t v := hval0
  have hW' := hW
  obtain ⟨p, q, hA0, hV, rfl, _, _⟩ := hW
  have hA : DataW.TrodAll enc Tryz.prog W 0 (fun _ => true) true Tryz.f6.params.toList args.toList ds p := hA0
  rw [Tryz.params6] at hA hval
  obtain ⟨rfl, rfl⟩ := trodVars_none hV
  obtain ⟨v0, v1, v2, v3, v4, v5, v6, v7, d0, d1, d2, d3, d4, d5, d6, d7, p0, p1, p2, p3, p4, p5, p6, p7, rfl, rfl, rfl, h0, h1, h2, h3, h4, h5, h6, h7⟩ := trodAll_eight hA
  obtain ⟨a0, n0, c0, rfl⟩ := okWide_slice Tryz.underlying59 (hval 0 59 v0 rfl rfl)
  obtain ⟨a1, n1, c1, rfl⟩ := okWide_slice Tryz.underlying58 (hval 1 58 v1 rfl rfl)
  obtain ⟨a2, n2, c2, rfl⟩ := okWide_slice Tryz.underlying57 (hval 2 57 v2 rfl rfl)
  obtain ⟨a3, n3, c3, rfl⟩ := okWide_slice Tryz.underlying58 (hval 3 58 v3 rfl rfl)
  obtain ⟨a4, n4, c4, rfl⟩ := okWide_slice Tryz.underlying59 (hval 4 59 v4 rfl rfl)
  obtain ⟨a5, n5, c5, rfl⟩ := okWide_slice Tryz.underlying59 (hval 5 59 v5 rfl rfl)
  obtain ⟨a6, n6, c6, rfl⟩ := okWide_slice Tryz.underlying58 (hval 6 58 v6 rfl rfl)
  obtain ⟨a7, n7, c7, rfl⟩ := okWide_slice Tryz.underlying57 (hval 7 57 v7 rfl rfl)
  obtain ⟨m0, x0, e0⟩ := bools_arg h0
  obtain ⟨m1, x1, e1⟩ := flos_arg h1
  obtain ⟨m2, x2, e2⟩ := strs_arg h2
  obtain ⟨m3, x3, e3⟩ := flos_arg h3
  obtain ⟨m4, x4, e4⟩ := bools_arg h4
  obtain ⟨m5, x5, e5⟩ := bools_arg h5
  obtain ⟨m6, x6, e6⟩ := flos_arg h6
  obtain ⟨m7, x7, e7⟩ := strs_arg h7
  have fin : Calls Tryz.prog 6 #[.slice a0 n0 c0, .slice a1 n1 c1, .slice a2 n2 c2, .slice a3 n3 c3, .slice a4 n4 c4, .slice a5 n5 c5, .slice a6 n6 c6, .slice a7 n7 c7] W (Good W) := by
    by_cases hl : n0 ≤ 4096 ∧ n1 ≤ 4096 ∧ n2 ≤ 4096 ∧ n3 ≤ 4096 ∧ n4 ≤ 4096 ∧ n5 ≤ 4096 ∧ n6 ≤ 4096 ∧ n7 ≤ 4096
    · exact stl_in a0 n0 c0 x0 a1 n1 c1 x1 a2 n2 c2 x2 a3 n3 c3 x3 a4 n4 c4 x4 a5 n5 c5 x5 a6 n6 c6 x6 a7 n7 c7 x7 W hl.1 hl.2.1 hl.2.2.1 hl.2.2.2.1 hl.2.2.2.2.1 hl.2.2.2.2.2.1 hl.2.2.2.2.2.2.1 hl.2.2.2.2.2.2.2 e0 e1 e2 e3 e4 e5 e6 e7
    · exact stl_long a0 n0 c0 a1 n1 c1 a2 n2 c2 a3 n3 c3 a4 n4 c4 a5 n5 c5 a6 n6 c6 a7 n7 c7 x2 x7 W m0 m1 m2 m3 m4 m5 m6 m7 hl e2 e7
  exact fin.mono fun e W' ⟨he, hb⟩ => ⟨_, he, law_ends Tryz.laidOut (by as_aux_lemma => kernel_rfl) rfl Tryz.underlying4 rfl hW' rfl rfl rfl hb⟩

set_option maxHeartbeats 2000000 in
theorem stl_holds : Rows.FnSetTablePlainLastWriteToldSaid :=
  Claim7.holds_of_told_tied_any_at .later 6 Tryz.f6 "fmt.Sprintf, its operands' methods called" ["fmt.Sprint"] [] _ _ _ _ _ (by as_aux_lemma => kernel_rfl) rfl rfl rfl Tryz.laidOut Tryz.rowed rfl ⟨rfl, rfl, rfl, rfl, rfl, rfl, rfl⟩ rfl rfl (by as_aux_lemma => kernel_rfl) (by as_aux_lemma => kernel_rfl) Tryz.func6 (by as_aux_lemma => kernel_rfl)
    (of_decide_eq_true (by as_aux_lemma => kernel_rfl)) (by unfold Func.isWrapper; rw [if_neg (of_decide_eq_false (by as_aux_lemma => kernel_rfl))]; exact ⟨rfl, rfl⟩) Tryz.stops.symm rfl Tryz.stopKnobs.symm Tryz.worded
    (by as_aux_lemma => kernel_rfl) (by as_aux_lemma => kernel_rfl) (by as_aux_lemma => kernel_rfl) (by as_aux_lemma => kernel_rfl) (by as_aux_lemma => kernel_rfl) (by as_aux_lemma => kernel_rfl) (by as_aux_lemma => kernel_rfl) (by as_aux_lemma => kernel_rfl) (by as_aux_lemma => kernel_rfl) rfl (by as_aux_lemma => kernel_rfl) rfl rfl
    rfl rfl
    rfl Tryz.main_is Tryz.looked (by as_aux_lemma => kernel_rfl) (by decide) (by as_aux_lemma => kernel_rfl) fnSetTablePlainLastWrite_row_tie
    (OpenClaim.moreEntering_of (by as_aux_lemma => kernel_rfl) (by as_aux_lemma => kernel_rfl) (by as_aux_lemma => kernel_rfl) (by as_aux_lemma => kernel_rfl) (by as_aux_lemma => kernel_rfl) (by as_aux_lemma => kernel_rfl) (by as_aux_lemma => kernel_rfl) (by as_aux_lemma => kernel_rfl) (by as_aux_lemma => kernel_rfl) (by as_aux_lemma => kernel_rfl))
    ⟨_, WideRow.started_initial, Tryz.quiet _⟩
    (fun os started _ H enc _ => stl_lifted os started H enc)

#print axioms stl_holds

end Go.Proofs.YtlmadbgpllokfaaGreatFmt
