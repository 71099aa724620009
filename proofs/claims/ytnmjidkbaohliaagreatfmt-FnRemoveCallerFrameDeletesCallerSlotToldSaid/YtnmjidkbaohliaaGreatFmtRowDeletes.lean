/- For all three slices of ints FnRemoveCallerFrameDeletesCallerSlot returns true and leaves its arguments as they were; no condition (fmt is not met on the road). -/
import Derived.Test.YtnmjidkbaohliaaGreatFmtCommon
import Derived.Test.YtnmjidkbaohliaaGreatFmtInts
import Derived.Test.YtnmjidkbaohliaaGreatFmtDelIn
namespace Go.Proofs.YtnmjidkbaohliaaGreatFmt
open Go.ChangeShapes Go.WideShapes Go.ChangeAt Go.RowKit
open Go.Extern.Stop Go.Stop Go.Extern
open Go.ChangeMaps (open_string shut_string)

set_option maxRecDepth 100000 in
set_option maxHeartbeats 2000000 in
theorem deletes_lifted (os : Os) (started : os.Started) (H : Type) (enc : TypeId × Value → H) :
    ReturnsInTold none {} Tryz.checked os 6 .any Input.okWide ((OpenSpec.ofChange Rows.fnRemoveCallerFrameDeletesCallerSlotSpec).preRow enc Tryz.prog Tryz.f6 [] false []) (fun F => ((OpenSpec.ofChange Rows.fnRemoveCallerFrameDeletesCallerSlotSpec).at F).post enc Tryz.prog Tryz.f6 false true false false) (aloneAtReturn Tryz.prog) nothingAlways := by
  refine returnsInTold_of_row (C := Tryz.checked) (s := OpenSpec.ofChange Rows.fnRemoveCallerFrameDeletesCallerSlotSpec) Tryz.mayEnter Tryz.own started (by as_aux_lemma => kernel_rfl) Tryz.func6
    (witness_sh (enc := enc) (C := Tryz.checked) false ⟨#[], #[.slice none 0 0, .slice none 0 0, .slice none 0 0], []⟩ 8 (Tryz.shaped os _) (by as_aux_lemma => kernel_rfl) (by as_aux_lemma => kernel_rfl) (by as_aux_lemma => kernel_rfl) rfl) ?_
  intro F W base args ds gs before _ _ hval0 hW _ _ hsz0 _ _
  have hval : ∀ (j : Nat) t v, Tryz.f6.params[j]? = some t → args[j]? = some v → Value.okWide Tryz.prog W .any base t v := hval0
  have hW' := hW
  obtain ⟨p, q, hA0, hV, rfl, _, _⟩ := hW
  have hA : DataW.TrodAll enc Tryz.prog W 0 (fun _ => true) true Tryz.f6.params.toList args.toList ds p := hA0
  rw [Tryz.params6] at hA hval
  obtain ⟨rfl, rfl⟩ := trodVars_none hV
  obtain ⟨v0, v1, v2, d0, d1, d2, p0, p1, p2, rfl, rfl, rfl, h0, h1, h2⟩ := trodAll_three hA
  obtain ⟨a1, n1, c1, rfl⟩ := okWide_slice Tryz.underlying47 (hval 0 47 v0 rfl rfl)
  obtain ⟨a2, n2, c2, rfl⟩ := okWide_slice Tryz.underlying47 (hval 1 47 v1 rfl rfl)
  obtain ⟨a3, n3, c3, rfl⟩ := okWide_slice Tryz.underlying47 (hval 2 47 v2 rfl rfl)
  obtain ⟨m1, g1⟩ := ints47 h0
  obtain ⟨m2, g2⟩ := ints47 h1
  obtain ⟨m3, g3⟩ := ints47 h2
  have fin : Calls Tryz.prog 6 #[.slice a1 n1 c1, .slice a2 n2 c2, .slice a3 n3 c3] W (Good W) := by
    by_cases hs : n1 + n2 + n3 ≤ 1048576
    · by_cases ho : n1 ≤ 4096 ∧ n2 = n1 ∧ n3 = n1 ∧ 2 ≤ n1
      · obtain ⟨hk, rfl, rfl, hk2⟩ := ho
        obtain ⟨x1, rfl, f1, e1⟩ := g1 (by omega)
        obtain ⟨x2, rfl, f2, e2⟩ := g2 (by omega)
        obtain ⟨x3, rfl, f3, e3⟩ := g3 (by omega)
        exact deletes_in x1 x2 x3 _ (n3 - 2) c1 c2 c3 f1 f2 f3 W hk (by omega) e1 e2 e3
      · exact deletes_out a1 a2 a3 n1 n2 n3 c1 c2 c3 W hs ho
    · exact deletes_long a1 a2 a3 n1 n2 n3 c1 c2 c3 W m1 m2 m3 (by omega)
  exact fin.mono fun e W' ⟨he, hb⟩ => ⟨_, he, law_ends Tryz.laidOut (by as_aux_lemma => kernel_rfl) rfl Tryz.underlying4 rfl hW' rfl rfl rfl hb⟩

set_option maxHeartbeats 2000000 in
theorem deletes_holds : Rows.FnRemoveCallerFrameDeletesCallerSlotToldSaid :=
  Claim7.holds_of_told_any 6 Tryz.f6 "fmt.Sprintf, its operands' methods called" ["fmt.Sprint"] [] _ _ _ (by as_aux_lemma => kernel_rfl) rfl rfl rfl Tryz.laidOut Tryz.rowed rfl ⟨rfl, rfl, rfl, rfl, rfl, rfl, rfl⟩ rfl rfl (by as_aux_lemma => kernel_rfl) (by as_aux_lemma => kernel_rfl) Tryz.func6 (by as_aux_lemma => kernel_rfl)
    (of_decide_eq_true (by as_aux_lemma => kernel_rfl)) (by unfold Func.isWrapper; rw [if_neg (of_decide_eq_false (by as_aux_lemma => kernel_rfl))]; exact ⟨rfl, rfl⟩) Tryz.stops.symm rfl Tryz.stopKnobs.symm Tryz.worded
    (by as_aux_lemma => kernel_rfl) (by as_aux_lemma => kernel_rfl) (by as_aux_lemma => kernel_rfl) (by as_aux_lemma => kernel_rfl) (by as_aux_lemma => kernel_rfl) (by as_aux_lemma => kernel_rfl) (by as_aux_lemma => kernel_rfl) (by as_aux_lemma => kernel_rfl) (by as_aux_lemma => kernel_rfl) rfl (by as_aux_lemma => kernel_rfl) rfl rfl
    rfl rfl
    rfl Tryz.main_is Tryz.looked (by as_aux_lemma => kernel_rfl) (by decide) (by as_aux_lemma => kernel_rfl)
    (OpenClaim.moreEntering_of (by as_aux_lemma => kernel_rfl) (by as_aux_lemma => kernel_rfl) (by as_aux_lemma => kernel_rfl) (by as_aux_lemma => kernel_rfl) (by as_aux_lemma => kernel_rfl) (by as_aux_lemma => kernel_rfl) (by as_aux_lemma => kernel_rfl) (by as_aux_lemma => kernel_rfl) (by as_aux_lemma => kernel_rfl) (by as_aux_lemma => kernel_rfl))
    ⟨_, WideRow.started_initial, Tryz.quiet _⟩
    (fun os started _ H enc _ => deletes_lifted os started H enc)

#print axioms deletes_holds

end Go.Proofs.YtnmjidkbaohliaaGreatFmt
