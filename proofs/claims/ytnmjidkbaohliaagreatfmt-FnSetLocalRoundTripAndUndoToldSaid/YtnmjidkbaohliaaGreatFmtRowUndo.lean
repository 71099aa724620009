/- For every slice of floats, slice of ints, two ints and float FnSetLocalRoundTripAndUndo returns true and leaves its arguments as they were; no condition (fmt is not met on the road). -/
import Derived.Test.YtnmjidkbaohliaaGreatFmtCommon
import Derived.Test.YtnmjidkbaohliaaGreatFmtFive
import Derived.Test.YtnmjidkbaohliaaGreatFmtLoc10
namespace Go.Proofs.YtnmjidkbaohliaaGreatFmt
open Go.ChangeShapes Go.WideShapes Go.ChangeAt Go.RowKit
open Go.Extern.Stop Go.Stop Go.Extern
open Go.ChangeMaps (open_string shut_string)

set_option maxRecDepth 100000 in
set_option maxHeartbeats 2000000 in
theorem undo_lifted (os : Os) (started : os.Started) (H : Type) (enc : TypeId × Value → H) :
    ReturnsInTold none {} Tryz.checked os 9 .any Input.okWide ((OpenSpec.ofChange Rows.fnSetLocalRoundTripAndUndoSpec).preRow enc Tryz.prog Tryz.f9 [] false []) (fun F => ((OpenSpec.ofChange Rows.fnSetLocalRoundTripAndUndoSpec).at F).post enc Tryz.prog Tryz.f9 false true false false) (aloneAtReturn Tryz.prog) nothingAlways := by
  refine returnsInTold_of_row (C := Tryz.checked) (s := OpenSpec.ofChange Rows.fnSetLocalRoundTripAndUndoSpec) Tryz.mayEnter Tryz.own started (by as_aux_lemma => kernel_rfl) Tryz.func9
    (witness_sh (enc := enc) (C := Tryz.checked) false ⟨#[], #[.slice none 0 0, .slice none 0 0, .int .i64 0, .int .i64 0, .float .f64 0], []⟩ 8 (Tryz.shaped os _) (by as_aux_lemma => kernel_rfl) (by as_aux_lemma => kernel_rfl) (by as_aux_lemma => kernel_rfl) rfl) ?_
  intro F W base args ds gs before _ _ hval0 hW _ _ hsz0 _ _
  have hval : ∀ (j : Nat) t v, Tryz.f9.params[j]? = some t → args[j]? = some v → Value.okWide Tryz.prog W .any base t v := hval0
  have hW' := hW
  obtain ⟨p, q, hA0, hV, rfl, _, _⟩ := hW
  have hA : DataW.TrodAll enc Tryz.prog W 0 (fun _ => true) true Tryz.f9.params.toList args.toList ds p := hA0
  rw [Tryz.params9] at hA hval
  obtain ⟨rfl, rfl⟩ := trodVars_none hV
  obtain ⟨v0, v1, v2, v3, v4, d0, d1, d2, d3, d4, p0, p1, p2, p3, p4, rfl, rfl, rfl, h0, h1, h2, h3, h4⟩ := trodAll_five hA
  obtain ⟨a0, n0, c0, rfl⟩ := okWide_slice Tryz.underlying29 (hval 0 29 v0 rfl rfl)
  obtain ⟨a1, n1, c1, rfl⟩ := okWide_slice Tryz.underlying47 (hval 1 47 v1 rfl rfl)
  obtain ⟨lv, rfl, _, _, wlv⟩ := open_int Tryz.underlying3 (hval 2 3 v2 rfl rfl) h2
  obtain ⟨no, rfl, _, _, wno⟩ := open_int Tryz.underlying3 (hval 3 3 v3 rfl rfl) h3
  obtain ⟨y, rfl, _, _, wy⟩ := open_float Tryz.underlying25 (hval 4 25 v4 rfl rfl) h4
  obtain ⟨m0, x, e0⟩ := flos29 h0
  obtain ⟨m1, f, e1⟩ := ints47c h1
  have fin : Calls Tryz.prog 9 #[.slice a0 n0 c0, .slice a1 n1 c1, .int .i64 lv, .int .i64 no, .float .f64 y] W (Good W) := by
    by_cases ho : n0 ≤ 65536 ∧ n1 ≤ 4096
    · exact undo_fit a0 a1 n0 c0 n1 c1 f x lv no y W ho.1 ho.2 e0 e1
    · exact undo_long a0 a1 n0 c0 n1 c1 lv no y W m0 m1 ho
  exact fin.mono fun e W' ⟨he, hb⟩ => ⟨_, he, law_ends Tryz.laidOut (by as_aux_lemma => kernel_rfl) rfl Tryz.underlying4 rfl hW' rfl rfl rfl hb⟩

set_option maxHeartbeats 2000000 in
theorem undo_holds : Rows.FnSetLocalRoundTripAndUndoToldSaid :=
  Claim7.holds_of_told_any 9 Tryz.f9 "fmt.Sprintf, its operands' methods called" ["fmt.Sprint"] [] _ _ _ (by as_aux_lemma => kernel_rfl) rfl rfl rfl Tryz.laidOut Tryz.rowed rfl ⟨rfl, rfl, rfl, rfl, rfl, rfl, rfl⟩ rfl rfl (by as_aux_lemma => kernel_rfl) (by as_aux_lemma => kernel_rfl) Tryz.func9 (by as_aux_lemma => kernel_rfl)
    (of_decide_eq_true (by as_aux_lemma => kernel_rfl)) (by unfold Func.isWrapper; rw [if_neg (of_decide_eq_false (by as_aux_lemma => kernel_rfl))]; exact ⟨rfl, rfl⟩) Tryz.stops.symm rfl Tryz.stopKnobs.symm Tryz.worded
    (by as_aux_lemma => kernel_rfl) (by as_aux_lemma => kernel_rfl) (by as_aux_lemma => kernel_rfl) (by as_aux_lemma => kernel_rfl) (by as_aux_lemma => kernel_rfl) (by as_aux_lemma => kernel_rfl) (by as_aux_lemma => kernel_rfl) (by as_aux_lemma => kernel_rfl) (by as_aux_lemma => kernel_rfl) rfl (by as_aux_lemma => kernel_rfl) rfl rfl
    rfl rfl
    rfl Tryz.main_is Tryz.looked (by as_aux_lemma => kernel_rfl) (by decide) (by as_aux_lemma => kernel_rfl)
    (OpenClaim.moreEntering_of (by as_aux_lemma => kernel_rfl) (by as_aux_lemma => kernel_rfl) (by as_aux_lemma => kernel_rfl) (by as_aux_lemma => kernel_rfl) (by as_aux_lemma => kernel_rfl) (by as_aux_lemma => kernel_rfl) (by as_aux_lemma => kernel_rfl) (by as_aux_lemma => kernel_rfl) (by as_aux_lemma => kernel_rfl) (by as_aux_lemma => kernel_rfl))
    ⟨_, WideRow.started_initial, Tryz.quiet _⟩
    (fun os started _ H enc _ => undo_lifted os started H enc)

#print axioms undo_holds

end Go.Proofs.YtnmjidkbaohliaaGreatFmt
