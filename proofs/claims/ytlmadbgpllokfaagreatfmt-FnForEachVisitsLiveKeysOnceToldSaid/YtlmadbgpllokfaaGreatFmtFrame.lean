/- The frame of a law: a call that answers true and leaves alone all that was there meets its row. -/
import Derived.Test.YtlmadbgpllokfaaGreatFmtCards
import Derived.Test.YtlmadbgpllokfaaGreatFmtFacts
import Derived.Test.YtlmadbgpllokfaaGreatFmtShape
import Derived.ProofKit
import Derived.OpenShut
import Derived.Carry
import Derived.Stop.JoinedAt
import Derived.Stop.JoinedTold
import Derived.SevenToldRow
import Derived.Laws.Cover2
namespace Go.Proofs.YtlmadbgpllokfaaGreatFmt
open Go.ChangeShapes Go.WideShapes Go.ChangeAt Go.RowKit
open Go.Extern.Stop Go.Stop Go.Extern

theorem trodAll_stays {H : Type} {enc : TypeId × Value → H} {P : Program} (hl : laidOutB P = true) {W W' : World} (hb : Below W.heap.size W W') :
    ∀ (ts : List TypeId) (vs : List Value) (ds : List (DataW H)) (ps : List MemPlace), ts.all (fun t => P.readableRec t && decide (t < P.types.size)) = true →
      DataW.TrodAll enc P W 0 (fun _ => true) true ts vs ds ps → (∀ x ∈ ps, x.block < W.heap.size) → DataW.TrodAll enc P W' 0 (fun b => decide (b < W.heap.size)) true ts vs ds ps
  | [], vs, ds, ps, _, h, _ => by
    obtain ⟨rfl, rfl, rfl⟩ := trodAll_nil h
    exact trodAll_mk0
  | t :: ts, vs, ds, ps, hr, h, hlt => by
    obtain ⟨v, vs', d, ds', p, q, rfl, rfl, rfl, h1, h2⟩ := trodAll_cons h
    simp only [List.all_cons, Bool.and_eq_true, decide_eq_true_eq] at hr
    exact trodAll_cons_mk (Below.trod hl hr.1.1 hr.1.2 h1 hb (fun x hx => hlt x (List.mem_append_left _ hx)))
      (trodAll_stays hl hb ts vs' ds' q (by simpa using hr.2) h2 (fun x hx => hlt x (List.mem_append_right _ hx)))

theorem law_ends {H : Type} {enc : TypeId × Value → H} {P : Program} {fn : Func} {s : ChangeSpec} {apart : Bool} (hl : laidOutB P = true) (hpar : fn.params.toList.all (fun t => P.readableRec t && decide (t < P.types.size)) = true)
    (hres : fn.resultTypes = #[4]) (hb : P.underlying 4 = some .bool) (hv : s.vars = []) {W W' : World} {args : Array Value} {ds gs : List (DataW H)} {before : List MemPlace}
    (hW : DataW.Whole enc P fn.params.toList s.vars apart W args.toList ds gs before)
    (hr : (s.fn H (ds ++ gs)).results = [.lit (.bool true)]) (ha : (s.fn H (ds ++ gs)).args = ds) (hvv : (s.fn H (ds ++ gs)).vars = []) (hbel : Below W.heap.size W W') :
    s.post enc P fn apart true false false W args (.bool true) W' := by
  have hW' := hW
  obtain ⟨p, q, hA, hV, rfl, hfz, hnd⟩ := hW
  refine ⟨ds, gs, p ++ q, [], p, [], hW', ?_, ?_, ?_, hbel.frame _, fun h => by cases h⟩
  · rw [hr, hres]
    exact trodAll_mk1 (shut_bool hb true)
  · rw [ha]
    exact trodAll_stays hl hbel _ _ _ _ hpar hA (fun x hx => by have := hW'.lt x (List.mem_append_left _ hx); simpa using this)
  · rw [hvv, hv]
    rfl

theorem witness_sh {H : Type} {enc : TypeId × Value → H} {C : Checked} {os : Os} {f : FuncId} {fn : Func} {s : OpenSpec} {conds : List PathCond} {apart : Bool} (modest : Bool) (i : Input) (fuel : Nat)
    (hsh : (World.plainHolding C.prog os i).Shaped C.prog)
    (hok : Input.okWideB C.prog (World.plainHolding C.prog os i) f ⟨#[], i.args, []⟩ = true)
    (hpre : s.bare.preB enc C.prog fn conds apart (World.plainHolding C.prog os i).memory i.args fuel = true)
    (hsz : s.bare.sizedB enc C.prog fn apart (World.plainHolding C.prog os i).memory i.args fuel = true) (hk : s.cond = none) (F : Stop.Interp) :
    ∃ (w : World) (tape : Tape) (i : Input), w.os = os ∧ (w.forCall tape i).Shaped C.prog ∧ i.vars = [] ∧ Input.okWide C.prog (w.forCall tape i) .any w.heap.size f i ∧
      s.preRow enc C.prog fn conds apart [] (w.forCall tape i).memory i.args ∧ ({ modest := modest } : Assume).holds C.prog (lone (Frame.enter C.prog f i.args .normal) [] (w.forCall tape i)) ∧ F.answers tape :=
  ⟨World.holding C.prog os i, F.over fun _ _ => 0, ⟨#[], i.args, []⟩, rfl, hsh, (Input.okWide_of_okWideB (base := 0) hok).1, (Input.okWide_of_okWideB hok).2, OpenSpec.preRow_of_B hk fuel hpre hsz (laidMetH_nil _ _), by
    simp only [Assume.holds]
    exact ⟨by simp, by simp, fun _ => F.over_modest Modest.zero, by simp, by simp⟩, F.over_answers _⟩

theorem Tryz.own : ownKnob Tryz.prog.godebug = none := by kernel_rfl
theorem Tryz.laidOut : laidOutB Tryz.prog = true := by kernel_rfl
theorem Tryz.stops : Tryz.pinned.checked.prog.stops = ["fmt.Sprintf, its operands' methods called", "fmt.Sprint"] := by kernel_rfl
theorem Tryz.stopKnobs : Tryz.pinned.checked.prog.stopKnobs = [] := by kernel_rfl
theorem Tryz.quiet (os : Os) : Stop.quiet Tryz.pinned.checked.prog os := by
  intro k hk
  rw [Tryz.stopKnobs] at hk
  cases hk

end Go.Proofs.YtlmadbgpllokfaaGreatFmt
