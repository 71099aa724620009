/- For every slice of strings, two slices of int, four ints and bool FnFindLocalInnermostFrameSpec returns true and leaves its arguments as they were; no condition (fmt is not met on the road). -/
import Derived.Test.YtkoiadebacdklaaGreatFmtCommon
import Derived.Test.YtkoiadebacdklaaGreatFmtArg8
import Derived.Test.YtkoiadebacdklaaGreatFmtLod
import Derived.Test.YtkoiadebacdklaaGreatFmtLoe
import Derived.Carry
namespace Go.Proofs.YtkoiadebacdklaaGreatFmt
open Go.ChangeShapes Go.WideShapes Go.ChangeAt Go.RowKit
open Go.Extern.Stop Go.Stop Go.Extern
open Go.ChangeMaps (open_string shut_string)

set_option maxRecDepth 100000 in
set_option maxHeartbeats 2000000 in
theorem find_lifted (os : Os) (started : os.Started) (H : Type) (enc : TypeId × Value → H) :
    ReturnsInTold none {} Tryz.checked os 4 .any Input.okWide ((OpenSpec.ofChange Rows.fnFindLocalInnermostFrameSpecSpec).preRow enc Tryz.prog Tryz.f4 [] false []) (fun F => ((OpenSpec.ofChange Rows.fnFindLocalInnermostFrameSpecSpec).at F).post enc Tryz.prog Tryz.f4 false true false false) (aloneAtReturn Tryz.prog) nothingAlways := by
  refine returnsInTold_of_row (C := Tryz.checked) (s := OpenSpec.ofChange Rows.fnFindLocalInnermostFrameSpecSpec) Tryz.mayEnter Tryz.own started (by as_aux_lemma => kernel_rfl) Tryz.func4
    (witness_sh (enc := enc) (C := Tryz.checked) false ⟨#[], #[.slice none 0 0, .slice none 0 0, .slice none 0 0, .int .i64 0, .int .i64 0, .int .i64 0, .int .i64 0, .bool false], []⟩ 8 (Tryz.shaped os _) (by as_aux_lemma => kernel_rfl) (by as_aux_lemma => kernel_rfl) (by as_aux_lemma => kernel_rfl) rfl) ?_
  intro F W base args ds gs before _ _ hval0 hW _ _ hsz0 _ _
  have hval : ∀ (j : Nat) t v, Tryz.f4.params[j]? = some t → args[j]? = some v → Value.okWide Tryz.prog W .any base t v := hval0
  have hW' := hW
  obtain ⟨p, q, hA0, hV, rfl, _, _⟩ := hW
  have hA : DataW.TrodAll enc Tryz.prog W 0 (fun _ => true) true Tryz.f4.params.toList args.toList ds p := hA0
  rw [Tryz.params4] at hA hval
  obtain ⟨rfl, rfl⟩ := trodVars_none hV
  obtain ⟨v0, v1, v2, v3, v4, v5, v6, v7, d0, d1, d2, d3, d4, d5, d6, d7, p0, p1, p2, p3, p4, p5, p6, p7, rfl, rfl, rfl, h0, h1, h2, h3, h4, h5, h6, h7⟩ := trodAll_eight hA
  obtain ⟨a0, n0, c0, rfl⟩ := okWide_slice Tryz.underlying22 (hval 0 22 v0 rfl rfl)
  obtain ⟨a1, n1, c1, rfl⟩ := okWide_slice Tryz.underlying47 (hval 1 47 v1 rfl rfl)
  obtain ⟨a2, n2, c2, rfl⟩ := okWide_slice Tryz.underlying47 (hval 2 47 v2 rfl rfl)
  obtain ⟨pc, rfl, _, _, wpc⟩ := open_int Tryz.underlying3 (hval 3 3 v3 rfl rfl) h3
  obtain ⟨lb, rfl, _, _, wlb⟩ := open_int Tryz.underlying3 (hval 4 3 v4 rfl rfl) h4
  obtain ⟨top, rfl, _, _, wtop⟩ := open_int Tryz.underlying3 (hval 5 3 v5 rfl rfl) h5
  obtain ⟨no, rfl, _, _, wno⟩ := open_int Tryz.underlying3 (hval 6 3 v6 rfl rfl) h6
  obtain ⟨g, rfl, _, _⟩ := open_bool Tryz.underlying4 (hval 7 4 v7 rfl rfl) h7
  obtain ⟨m0, s, e0⟩ := strs_arg h0
  obtain ⟨m1, st, _, e1⟩ := ints_arg h1
  obtain ⟨m2, en, _, e2⟩ := ints_arg h2
  obtain ⟨w1, w2⟩ := wf_i64 wno
  have fin : Calls Tryz.prog 4 #[.slice a0 n0 c0, .slice a1 n1 c1, .slice a2 n2 c2, .int .i64 pc, .int .i64 lb, .int .i64 top, .int .i64 no, .bool g] W (Good W) := by
    by_cases hl : n0 ≤ 4096 ∧ n1 ≤ 4096 ∧ n2 ≤ 4096
    · exact find_in a0 a1 a2 n0 c0 n1 c1 n2 c2 s st en pc lb top no g W hl.1 hl.2.1 hl.2.2 w1 w2 e0 e1 e2
    · exact find_long a0 a1 a2 n0 c0 n1 c1 n2 c2 pc lb top no g s W m0 m1 m2 hl e0
  exact fin.mono fun e W' ⟨he, hb⟩ => ⟨_, he, law_ends Tryz.laidOut (by as_aux_lemma => kernel_rfl) rfl Tryz.underlying4 rfl hW' rfl rfl rfl hb⟩

set_option maxHeartbeats 2000000 in
theorem find_holds : Rows.FnFindLocalInnermostFrameSpecToldSaid :=
  Claim7.holds_of_told_any 4 Tryz.f4 "fmt.Sprintf, its operands' methods called" ["fmt.Sprint"] [] _ _ _ (by as_aux_lemma => kernel_rfl) rfl rfl rfl Tryz.laidOut Tryz.rowed rfl ⟨rfl, rfl, rfl, rfl, rfl, rfl, rfl⟩ rfl rfl (by as_aux_lemma => kernel_rfl) (by as_aux_lemma => kernel_rfl) Tryz.func4 (by as_aux_lemma => kernel_rfl)
    (of_decide_eq_true (by as_aux_lemma => kernel_rfl)) (by unfold Func.isWrapper; rw [if_neg (of_decide_eq_false (by as_aux_lemma => kernel_rfl))]; exact ⟨rfl, rfl⟩) Tryz.stops.symm rfl Tryz.stopKnobs.symm Tryz.worded
    (by as_aux_lemma => kernel_rfl) (by as_aux_lemma => kernel_rfl) (by as_aux_lemma => kernel_rfl) (by as_aux_lemma => kernel_rfl) (by as_aux_lemma => kernel_rfl) (by as_aux_lemma => kernel_rfl) (by as_aux_lemma => kernel_rfl) (by as_aux_lemma => kernel_rfl) (by as_aux_lemma => kernel_rfl) rfl (by as_aux_lemma => kernel_rfl) rfl rfl
    rfl rfl
    rfl Tryz.main_is Tryz.looked (by as_aux_lemma => kernel_rfl) (by decide) (by as_aux_lemma => kernel_rfl)
    (OpenClaim.moreEntering_of (by as_aux_lemma => kernel_rfl) (by as_aux_lemma => kernel_rfl) (by as_aux_lemma => kernel_rfl) (by as_aux_lemma => kernel_rfl) (by as_aux_lemma => kernel_rfl) (by as_aux_lemma => kernel_rfl) (by as_aux_lemma => kernel_rfl) (by as_aux_lemma => kernel_rfl) (by as_aux_lemma => kernel_rfl) (by as_aux_lemma => kernel_rfl))
    ⟨_, WideRow.started_initial, Tryz.quiet _⟩
    (fun os started _ H enc _ => find_lifted os started H enc)

#print axioms find_holds

end Go.Proofs.YtkoiadebacdklaaGreatFmt
