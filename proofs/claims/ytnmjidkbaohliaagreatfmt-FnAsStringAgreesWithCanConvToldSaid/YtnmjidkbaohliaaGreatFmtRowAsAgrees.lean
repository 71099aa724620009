/- For every kind, bool and string FnAsStringAgreesWithCanConv returns true and leaves its arguments as they were; no condition (fmt is not met on the road). -/
import Derived.Test.YtnmjidkbaohliaaGreatFmtFrame
import Derived.Test.YtnmjidkbaohliaaGreatFmtAsStr
namespace Go.Proofs.YtnmjidkbaohliaaGreatFmt
open Go.ChangeShapes Go.WideShapes Go.ChangeAt Go.RowKit
open Go.Extern.Stop Go.Stop Go.Extern
open Go.ChangeMaps (open_string shut_string)

set_option maxRecDepth 100000 in
set_option maxHeartbeats 2000000 in
theorem asAgrees_lifted (os : Os) (started : os.Started) (H : Type) (enc : TypeId × Value → H) :
    ReturnsInTold none {} Tryz.checked os 4 .any Input.okWide ((OpenSpec.ofChange Rows.fnAsStringAgreesWithCanConvSpec).preRow enc Tryz.prog Tryz.f4 [] false []) (fun F => ((OpenSpec.ofChange Rows.fnAsStringAgreesWithCanConvSpec).at F).post enc Tryz.prog Tryz.f4 false true false false) (aloneAtReturn Tryz.prog) nothingAlways := by
  refine returnsInTold_of_row (C := Tryz.checked) (s := OpenSpec.ofChange Rows.fnAsStringAgreesWithCanConvSpec) (by as_aux_lemma => kernel_rfl) Tryz.own started (by as_aux_lemma => kernel_rfl) Tryz.func4
    (witness_sh (enc := enc) (C := Tryz.checked) false ⟨#[], #[.int .i64 0, .bool false, .string ⟨#[]⟩], []⟩ 8 (Tryz.shaped os _) (by as_aux_lemma => kernel_rfl) (by as_aux_lemma => kernel_rfl) (by as_aux_lemma => kernel_rfl) rfl) ?_
  intro F W base args ds gs before _ _ hval0 hW _ _ hsz0 _ _
  have hval : ∀ (j : Nat) t v, Tryz.f4.params[j]? = some t → args[j]? = some v → Value.okWide Tryz.prog W .any base t v := hval0
  have hW' := hW
  obtain ⟨p, q, hA0, hV, rfl, _, _⟩ := hW
  have hA : DataW.TrodAll enc Tryz.prog W 0 (fun _ => true) true Tryz.f4.params.toList args.toList ds p := hA0
  rw [Tryz.params4] at hA hval
  obtain ⟨rfl, rfl⟩ := trodVars_none hV
  obtain ⟨v0, v1, v2, d0, d1, d2, p0, p1, p2, rfl, rfl, rfl, h0, h1, h2⟩ := trodAll_three hA
  obtain ⟨k, rfl, rfl, rfl, wk⟩ := open_int Tryz.underlying3 (hval 0 3 v0 rfl rfl) h0
  obtain ⟨b, rfl, rfl, rfl⟩ := open_bool Tryz.underlying4 (hval 1 4 v1 rfl rfl) h1
  obtain ⟨s, rfl, rfl, rfl, ws⟩ := open_string Tryz.underlying9 (hval 2 9 v2 rfl rfl) h2
  have ws2 : s.size ≤ 9223372036854775807 := ws
  have fin : Calls Tryz.prog 4 #[.int .i64 k, .bool b, .string s] W (Good W) := by
    by_cases hs : s.size ≤ 1048576
    · by_cases hk : k < 0 ∨ 6 < k ∨ k = 3
      · exact asStringAgrees_out k b s W hs hk
      · exact asStringAgrees_in k b s W hs (by omega)
    · exact asStringAgrees_long k b s W (by omega) (by omega)
  exact fin.mono fun e W' ⟨he, hb⟩ => ⟨_, he, law_ends Tryz.laidOut (by as_aux_lemma => kernel_rfl) rfl Tryz.underlying4 rfl hW' rfl rfl rfl hb⟩

set_option maxHeartbeats 2000000 in
theorem asAgrees_holds : Rows.FnAsStringAgreesWithCanConvToldSaid :=
  Claim7.holds_of_told_any 4 Tryz.f4 "fmt.Sprintf, its operands' methods called" ["fmt.Sprint"] [] _ _ _ (by as_aux_lemma => kernel_rfl) rfl rfl rfl Tryz.laidOut (by as_aux_lemma => kernel_rfl) rfl ⟨rfl, rfl, rfl, rfl, rfl, rfl, rfl⟩ rfl rfl (by as_aux_lemma => kernel_rfl) (by as_aux_lemma => kernel_rfl) Tryz.func4 (by as_aux_lemma => kernel_rfl)
    (of_decide_eq_true (by as_aux_lemma => kernel_rfl)) (by unfold Func.isWrapper; rw [if_neg (of_decide_eq_false (by as_aux_lemma => kernel_rfl))]; exact ⟨rfl, rfl⟩) Tryz.stops.symm rfl Tryz.stopKnobs.symm (by as_aux_lemma => kernel_rfl)
    (by as_aux_lemma => kernel_rfl) (by as_aux_lemma => kernel_rfl) (by as_aux_lemma => kernel_rfl) (by as_aux_lemma => kernel_rfl) (by as_aux_lemma => kernel_rfl) (by as_aux_lemma => kernel_rfl) (by as_aux_lemma => kernel_rfl) (by as_aux_lemma => kernel_rfl) (by as_aux_lemma => kernel_rfl) rfl (by as_aux_lemma => kernel_rfl) rfl rfl
    rfl rfl
    rfl (by as_aux_lemma => kernel_rfl) (by as_aux_lemma => kernel_rfl) (by as_aux_lemma => kernel_rfl) (by decide) (by as_aux_lemma => kernel_rfl)
    (OpenClaim.moreEntering_of (by as_aux_lemma => kernel_rfl) (by as_aux_lemma => kernel_rfl) (by as_aux_lemma => kernel_rfl) (by as_aux_lemma => kernel_rfl) (by as_aux_lemma => kernel_rfl) (by as_aux_lemma => kernel_rfl) (by as_aux_lemma => kernel_rfl) (by as_aux_lemma => kernel_rfl) (by as_aux_lemma => kernel_rfl) (by as_aux_lemma => kernel_rfl))
    ⟨_, WideRow.started_initial, Tryz.quiet _⟩
    (fun os started _ H enc _ => asAgrees_lifted os started H enc)

#print axioms asAgrees_holds

end Go.Proofs.YtnmjidkbaohliaaGreatFmt
