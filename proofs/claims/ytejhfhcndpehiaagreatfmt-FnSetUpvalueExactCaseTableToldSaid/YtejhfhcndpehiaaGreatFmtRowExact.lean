/- For all two slices of strings, int and string FnSetUpvalueExactCaseTable returns true and leaves its arguments as they were; no condition (fmt is not met on the road). -/
import Derived.Test.YtejhfhcndpehiaaGreatFmtCommon
import Derived.Test.YtejhfhcndpehiaaGreatFmtArgs
import Derived.Test.YtejhfhcndpehiaaGreatFmtUpE
import Derived.Carry
namespace Go.Proofs.YtejhfhcndpehiaaGreatFmt
open Go.ChangeShapes Go.WideShapes Go.ChangeAt Go.RowKit
open Go.Extern.Stop Go.Stop Go.Extern
open Go.ChangeMaps (open_string shut_string)

set_option maxRecDepth 100000 in
set_option maxHeartbeats 2000000 in
theorem exact_lifted (os : Os) (started : os.Started) (H : Type) (enc : TypeId × Value → H) :
    ReturnsInTold none {} Tryz.checked os 11 .any Input.okWide ((OpenSpec.ofChange Rows.fnSetUpvalueExactCaseTableSpec).preRow enc Tryz.prog Tryz.f11 [] false []) (fun F => ((OpenSpec.ofChange Rows.fnSetUpvalueExactCaseTableSpec).at F).post enc Tryz.prog Tryz.f11 false true false false) (aloneAtReturn Tryz.prog) nothingAlways := by
  refine returnsInTold_of_row (C := Tryz.checked) (s := OpenSpec.ofChange Rows.fnSetUpvalueExactCaseTableSpec) Tryz.mayEnter Tryz.own started (by as_aux_lemma => kernel_rfl) Tryz.func11
    (witness_sh (enc := enc) (C := Tryz.checked) false ⟨#[], #[.slice none 0 0, .slice none 0 0, .int .i64 0, .string ⟨#[]⟩], []⟩ 8 (Tryz.shaped os _) (by as_aux_lemma => kernel_rfl) (by as_aux_lemma => kernel_rfl) (by as_aux_lemma => kernel_rfl) rfl) ?_
  intro F W base args ds gs before _ _ hval0 hW _ _ hsz0 _ _
  have hval : ∀ (j : Nat) t v, Tryz.f11.params[j]? = some t → args[j]? = some v → Value.okWide Tryz.prog W .any base t v := hval0
  have hW' := hW
  obtain ⟨p, q, hA0, hV, rfl, _, _⟩ := hW
  have hA : DataW.TrodAll enc Tryz.prog W 0 (fun _ => true) true Tryz.f11.params.toList args.toList ds p := hA0
  rw [Tryz.params11] at hA hval
  obtain ⟨rfl, rfl⟩ := trodVars_none hV
  obtain ⟨v0, v1, v2, v3, d0, d1, d2, d3, p0, p1, p2, p3, rfl, rfl, rfl, h0, h1, h2, h3⟩ := trodAll_four hA
  obtain ⟨a0, n0, c0, rfl⟩ := okWide_slice Tryz.underlying68 (hval 0 68 v0 rfl rfl)
  obtain ⟨a1, n1, c1, rfl⟩ := okWide_slice Tryz.underlying68 (hval 1 68 v1 rfl rfl)
  obtain ⟨no, rfl, _, _, wno⟩ := open_int Tryz.underlying3 (hval 2 3 v2 rfl rfl) h2
  obtain ⟨v, rfl, rfl, rfl, ws⟩ := open_string Tryz.underlying9 (hval 3 9 v3 rfl rfl) h3
  obtain ⟨m0, s, e0⟩ := strs_arg h0
  obtain ⟨m1, t, e1⟩ := strs_arg h1
  obtain ⟨w1, w2⟩ := wf_i64 wno
  have fin : Calls Tryz.prog 11 #[.slice a0 n0 c0, .slice a1 n1 c1, .int .i64 no, .string v] W (Good W) := by
    by_cases hl : n0 ≤ 65536 ∧ n1 ≤ 65536
    · by_cases hin : 1 ≤ no ∧ no ≤ ((min n0 n1 : Nat) : Int)
      · obtain ⟨m, rfl⟩ : ∃ m : Nat, no = (m : Int) + 1 := ⟨(no - 1).toNat, by omega⟩
        exact exact_in a0 a1 n0 c0 n1 c1 s t m v W hl.1 hl.2 (by omega) e0 e1
      · exact exact_out a0 a1 n0 c0 n1 c1 s t no v W hl.1 hl.2 w1 w2 (by omega) e0 e1
    · exact exact_long a0 a1 n0 c0 n1 c1 s t no v W m0 m1 hl e0 e1
  exact fin.mono fun e W' ⟨he, hb⟩ => ⟨_, he, law_ends Tryz.laidOut (by as_aux_lemma => kernel_rfl) rfl Tryz.underlying4 rfl hW' rfl rfl rfl hb⟩

set_option maxHeartbeats 2000000 in
theorem exact_holds : Rows.FnSetUpvalueExactCaseTableToldSaid :=
  Claim7.holds_of_told_any 11 Tryz.f11 "fmt.Sprintf, its operands' methods called" ["fmt.Sprint"] [] _ _ _ (by as_aux_lemma => kernel_rfl) rfl rfl rfl Tryz.laidOut Tryz.rowed rfl ⟨rfl, rfl, rfl, rfl, rfl, rfl, rfl⟩ rfl rfl (by as_aux_lemma => kernel_rfl) (by as_aux_lemma => kernel_rfl) Tryz.func11 (by as_aux_lemma => kernel_rfl)
    (of_decide_eq_true (by as_aux_lemma => kernel_rfl)) (by unfold Func.isWrapper; rw [if_neg (of_decide_eq_false (by as_aux_lemma => kernel_rfl))]; exact ⟨rfl, rfl⟩) Tryz.stops.symm rfl Tryz.stopKnobs.symm Tryz.worded
    (by as_aux_lemma => kernel_rfl) (by as_aux_lemma => kernel_rfl) (by as_aux_lemma => kernel_rfl) (by as_aux_lemma => kernel_rfl) (by as_aux_lemma => kernel_rfl) (by as_aux_lemma => kernel_rfl) (by as_aux_lemma => kernel_rfl) (by as_aux_lemma => kernel_rfl) (by as_aux_lemma => kernel_rfl) rfl (by as_aux_lemma => kernel_rfl) rfl rfl
    rfl rfl
    rfl Tryz.main_is Tryz.looked (by as_aux_lemma => kernel_rfl) (by decide) (by as_aux_lemma => kernel_rfl)
    (OpenClaim.moreEntering_of (by as_aux_lemma => kernel_rfl) (by as_aux_lemma => kernel_rfl) (by as_aux_lemma => kernel_rfl) (by as_aux_lemma => kernel_rfl) (by as_aux_lemma => kernel_rfl) (by as_aux_lemma => kernel_rfl) (by as_aux_lemma => kernel_rfl) (by as_aux_lemma => kernel_rfl) (by as_aux_lemma => kernel_rfl) (by as_aux_lemma => kernel_rfl))
    ⟨_, WideRow.started_initial, Tryz.quiet _⟩
    (fun os started _ H enc _ => exact_lifted os started H enc)

#print axioms exact_holds

end Go.Proofs.YtejhfhcndpehiaaGreatFmt
