/- For all slices of int, float64, bool, string, float64 and bool FnForEachVisitsLiveKeysOnce returns true and leaves its arguments as they were; no condition (fmt is not met on the road). -/
import Derived.Test.YtlmadbgpllokfaaGreatFmtCommon
import Derived.Test.YtlmadbgpllokfaaGreatFmtArg2
import Derived.Test.YtlmadbgpllokfaaGreatFmtArgF
import Derived.Test.YtlmadbgpllokfaaGreatFmtFev
import Derived.Test.YtlmadbgpllokfaaGreatFmtStart4
import Derived.Test.YtlmadbgpllokfaaGreatFmtStart6
import Derived.Test.YtlmadbgpllokfaaGreatFmtTie
import Derived.SevenTiedAt
import Derived.Carry
namespace Go.Proofs.YtlmadbgpllokfaaGreatFmt
open Go.ChangeShapes Go.WideShapes Go.ChangeAt Go.RowKit
open Go.Extern.Stop Go.Stop Go.Extern
open Go.ChangeMaps (open_string shut_string)

theorem trodAll_six {H : Type} {enc : TypeId × Value → H} {P : Program} {w : World} {base : Nat} {spare : Nat → Bool} {held : Bool} {t0 t1 t2 t3 t4 t5 : TypeId} {args : Array Value} {ds : List (DataW H)} {ps : List MemPlace} (h : DataW.TrodAll enc P w base spare held [t0, t1, t2, t3, t4, t5] args.toList ds ps) :
    ∃ v0 v1 v2 v3 v4 v5 d0 d1 d2 d3 d4 d5 p0 p1 p2 p3 p4 p5, args = #[v0, v1, v2, v3, v4, v5] ∧ ds = [d0, d1, d2, d3, d4, d5] ∧ ps = p0 ++ (p1 ++ (p2 ++ (p3 ++ (p4 ++ (p5 ++ []))))) ∧ DataW.Trod enc P w base spare held t0 v0 d0 p0 ∧ DataW.Trod enc P w base spare held t1 v1 d1 p1 ∧ DataW.Trod enc P w base spare held t2 v2 d2 p2 ∧ DataW.Trod enc P w base spare held t3 v3 d3 p3 ∧ DataW.Trod enc P w base spare held t4 v4 d4 p4 ∧ DataW.Trod enc P w base spare held t5 v5 d5 p5 := by
  obtain ⟨v0, vs0, d0, ds0, p0, q0, hargs, rfl, rfl, h0, r0⟩ := trodAll_cons h
  obtain ⟨v1, vs1, d1, ds1, p1, q1, rfl, rfl, rfl, h1, r1⟩ := trodAll_cons r0
  obtain ⟨v2, vs2, d2, ds2, p2, q2, rfl, rfl, rfl, h2, r2⟩ := trodAll_cons r1
  obtain ⟨v3, vs3, d3, ds3, p3, q3, rfl, rfl, rfl, h3, r3⟩ := trodAll_cons r2
  obtain ⟨v4, vs4, d4, ds4, p4, q4, rfl, rfl, rfl, h4, r4⟩ := trodAll_cons r3
  obtain ⟨v5, vs5, d5, ds5, p5, q5, rfl, rfl, rfl, h5, r5⟩ := trodAll_cons r4
  obtain ⟨rfl, rfl, rfl⟩ := trodAll_nil r5
  exact ⟨v0, v1, v2, v3, v4, v5, d0, d1, d2, d3, d4, d5, p0, p1, p2, p3, p4, p5, by cases args; simp_all, rfl, rfl, h0, h1, h2, h3, h4, h5⟩
set_option maxRecDepth 100000 in
set_option maxHeartbeats 2000000 in
theorem fev_lifted (os : Os) (started : os.Started) (H : Type) (enc : TypeId × Value → H) :
    ReturnsInTold none {} Tryz.checked os 9 .any Input.okWide ((OpenSpec.ofChange Rows.fnForEachVisitsLiveKeysOnceSpec).preRow enc Tryz.prog Tryz.f9 [] false Rows.fnForEachVisitsLiveKeysOnceRow.laid) (fun F => ((OpenSpec.ofChange Rows.fnForEachVisitsLiveKeysOnceSpec).at F).post enc Tryz.prog Tryz.f9 false true false false) (aloneAtReturn Tryz.prog) nothingAlways := by
  refine returnsInTold_of_row (C := Tryz.checked) (s := OpenSpec.ofChange Rows.fnForEachVisitsLiveKeysOnceSpec) Tryz.mayEnter Tryz.own started (by as_aux_lemma => kernel_rfl) Tryz.func9
    (witness_laid (enc := enc) (C := Tryz.checked) false (startW os) #[.slice none 0 0, .slice none 0 0, .slice none 0 0, .slice none 0 0, .slice none 0 0, .slice none 0 0] 8 (start_shaped os _) (by as_aux_lemma => kernel_rfl) (by as_aux_lemma => kernel_rfl) (by as_aux_lemma => kernel_rfl) rfl (start_laidH os _)) ?_
  intro F W base args ds gs before _ _ hval0 hW _ _ hsz0 _ _
  have hval : ∀ (j : Nat) t v, Tryz.f9.params[j]? = some t → args[j]? = some v → Value.okWide Tryz.prog W .any base t v := hval0
  have hW' := hW
  obtain ⟨p, q, hA0, hV, rfl, _, _⟩ := hW
  have hA : DataW.TrodAll enc Tryz.prog W 0 (fun _ => true) true Tryz.f9.params.toList args.toList ds p := hA0
  rw [Tryz.params9] at hA hval
  obtain ⟨rfl, rfl⟩ := trodVars_none hV
  obtain ⟨v0, v1, v2, v3, v4, v5, d0, d1, d2, d3, d4, d5, p0, p1, p2, p3, p4, p5, rfl, rfl, rfl, h0, h1, h2, h3, h4, h5⟩ := trodAll_six hA
  obtain ⟨a0, n0, c0, rfl⟩ := okWide_slice Tryz.underlying93 (hval 0 93 v0 rfl rfl)
  obtain ⟨a1, n1, c1, rfl⟩ := okWide_slice Tryz.underlying58 (hval 1 58 v1 rfl rfl)
  obtain ⟨a2, n2, c2, rfl⟩ := okWide_slice Tryz.underlying59 (hval 2 59 v2 rfl rfl)
  obtain ⟨a3, n3, c3, rfl⟩ := okWide_slice Tryz.underlying57 (hval 3 57 v3 rfl rfl)
  obtain ⟨a4, n4, c4, rfl⟩ := okWide_slice Tryz.underlying58 (hval 4 58 v4 rfl rfl)
  obtain ⟨a5, n5, c5, rfl⟩ := okWide_slice Tryz.underlying59 (hval 5 59 v5 rfl rfl)
  obtain ⟨m0, x0, w0, e0⟩ := ints_arg h0
  obtain ⟨m1, x1, e1⟩ := flos_arg h1
  obtain ⟨m2, x2, e2⟩ := bools_arg h2
  obtain ⟨m3, x3, e3⟩ := strs_arg h3
  obtain ⟨m4, x4, e4⟩ := flos_arg h4
  obtain ⟨m5, x5, e5⟩ := bools_arg h5
  have fin : Calls Tryz.prog 9 #[.slice a0 n0 c0, .slice a1 n1 c1, .slice a2 n2 c2, .slice a3 n3 c3, .slice a4 n4 c4, .slice a5 n5 c5] W (Good W) := by
    by_cases hl : n0 ≤ 4096 ∧ n1 ≤ 4096 ∧ n2 ≤ 4096 ∧ n3 ≤ 4096 ∧ n4 ≤ 4096 ∧ n5 ≤ 4096
    · exact fev_in a0 n0 c0 x0 a1 n1 c1 x1 a2 n2 c2 x2 a3 n3 c3 x3 a4 n4 c4 x4 a5 n5 c5 x5 W hl.1 hl.2.1 hl.2.2.1 hl.2.2.2.1 hl.2.2.2.2.1 hl.2.2.2.2.2 e0 e1 e2 e3 e4 e5
    · exact fev_long a0 n0 c0 a1 n1 c1 a2 n2 c2 a3 n3 c3 a4 n4 c4 a5 n5 c5 x3 W m0 m1 m2 m3 m4 m5 hl e3
  exact fin.mono fun e W' ⟨he, hb⟩ => ⟨_, he, law_ends Tryz.laidOut (by as_aux_lemma => kernel_rfl) rfl Tryz.underlying4 rfl hW' rfl rfl rfl hb⟩

set_option maxHeartbeats 2000000 in
theorem fev_holds : Rows.FnForEachVisitsLiveKeysOnceToldSaid :=
  Claim7.holds_of_told_tied_any_at .later 9 Tryz.f9 "fmt.Sprintf, its operands' methods called" ["fmt.Sprint"] [] _ _ _ _ _ (by as_aux_lemma => kernel_rfl) rfl rfl rfl Tryz.laidOut Tryz.rowed rfl ⟨rfl, rfl, rfl, rfl, rfl, rfl, rfl⟩ rfl rfl (by as_aux_lemma => kernel_rfl) (by as_aux_lemma => kernel_rfl) Tryz.func9 (by as_aux_lemma => kernel_rfl)
    (of_decide_eq_true (by as_aux_lemma => kernel_rfl)) (by unfold Func.isWrapper; rw [if_neg (of_decide_eq_false (by as_aux_lemma => kernel_rfl))]; exact ⟨rfl, rfl⟩) Tryz.stops.symm rfl Tryz.stopKnobs.symm Tryz.worded
    (by as_aux_lemma => kernel_rfl) (by as_aux_lemma => kernel_rfl) (by as_aux_lemma => kernel_rfl) (by as_aux_lemma => kernel_rfl) (by as_aux_lemma => kernel_rfl) (by as_aux_lemma => kernel_rfl) (by as_aux_lemma => kernel_rfl) (by as_aux_lemma => kernel_rfl) (by as_aux_lemma => kernel_rfl) rfl (by as_aux_lemma => kernel_rfl) rfl rfl
    rfl rfl
    rfl Tryz.main_is Tryz.looked (by as_aux_lemma => kernel_rfl) (by decide) (by as_aux_lemma => kernel_rfl) fnForEachVisitsLiveKeysOnce_row_tie
    (OpenClaim.moreEntering_of (by as_aux_lemma => kernel_rfl) (by as_aux_lemma => kernel_rfl) (by as_aux_lemma => kernel_rfl) (by as_aux_lemma => kernel_rfl) (by as_aux_lemma => kernel_rfl) (by as_aux_lemma => kernel_rfl) (by as_aux_lemma => kernel_rfl) (by as_aux_lemma => kernel_rfl) (by as_aux_lemma => kernel_rfl) (by as_aux_lemma => kernel_rfl))
    ⟨_, WideRow.started_initial, Tryz.quiet _⟩
    (fun os started _ H enc _ => fev_lifted os started H enc)

#print axioms fev_holds

end Go.Proofs.YtlmadbgpllokfaaGreatFmt
