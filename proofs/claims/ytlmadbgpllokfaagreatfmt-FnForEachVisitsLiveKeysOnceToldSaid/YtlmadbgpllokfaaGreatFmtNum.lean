/- Which numbers are keys of the array part: isInteger, isArrayKey: walked. -/
import Derived.Test.YtlmadbgpllokfaaGreatFmtTat
namespace Go.Proofs.YtlmadbgpllokfaaGreatFmt
open Go.RowKit Go.Mapy Go.Tbl
set_option maxRecDepth 100000

/-- int64(v): the number cut, or whatever the machine gives. -/
theorem run_f2i (src : TypeId) (hs : Tryz.prog.underlying src = some (.float .f64)) (b : Nat) (dst : TypeId) (hd : Tryz.prog.underlying dst = some (.int .i64)) (w : World) : ∃ (t : Int) (n : Nat), (∀ z, floatToIntVal .f64 b .i64 = some z → t = z) ∧ (convert src dst (.float .f64 b)).run Tryz.prog w = .ok (.int .i64 t) (w.drewN n) := by
  cases h : floatToIntVal .f64 b .i64 with
  | some z => exact ⟨z, 0, fun y hy => (Option.some.inj hy), run_convert_float_int _ _ _ _ _ b z (by rw [hs]; rfl) hd h⟩
  | none =>
    have e : (convert src dst (.float .f64 b)).run Tryz.prog w = (Conv.floatToInt .f64 b .i64).run Tryz.prog w := by
      simp [convert, run_underlying hs, run_underlying hd]
    have e2 : Conv.floatToInt .f64 b .i64 = (do pure (.int .i64 (IntKind.i64.wrap (← choose (.floatToInt .f64 b .i64))))) := by
      unfold floatToIntVal at h
      unfold Conv.floatToInt
      split at h
      · rename_i m he
        split at h
        · cases h
        · rename_i hb
          rw [he]
          simp only [if_neg hb]
      · rename_i he
        rw [he]
    rw [e, e2]
    by_cases hf : (Question.floatToInt .f64 b .i64).forced = true
    · exact ⟨IntKind.i64.wrap 0, 0, fun z hz => (by cases hz), by simp only [Sem.run_bind, run_choose_drew, hf, if_true, Result.andThen_ok]; rfl⟩
    · exact ⟨_, 1, fun z hz => (by cases hz), by simp only [Sem.run_bind, run_choose_drew, hf, Bool.false_eq_true, if_false, Result.andThen_ok]; rfl⟩

theorem run_i2f (src dst : TypeId) (hs : Tryz.prog.underlying src = some (.int .i64)) (hd : Tryz.prog.underlying dst = some (.float .f64)) (t : Int) (w : World) : (convert src dst (.int .i64 t)).run Tryz.prog w = .ok (.float .f64 (FloatKind.f64.nearest t)) w := by
  simp [convert, run_underlying hs, run_underlying hd]
  rfl

set_option maxHeartbeats 400000 in
theorem is_integer (b : Nat) (w : World) : Calls Tryz.prog 86 #[.float .f64 b] w fun e w' => ∃ t n, (∀ z, floatToIntVal .f64 b .i64 = some z → t = z) ∧ e = .returned (.bool (FloatKind.f64.format.order b (FloatKind.f64.nearest t) == some .eq)) ∧ w' = w.drewN n := by
  obtain ⟨t, n, ht, hr⟩ := run_f2i 53 Tryz.underlying53 b 2 Tryz.underlying2 w
  have hc := run_i2f 2 26 Tryz.underlying2 Tryz.underlying26 t
  have HT := Lib.hid ht
  clear ht
  go_enter Tryz.func86, Tryz.ntmps86
  go_wp2
  go_ret
  exact ⟨t, n, HT.out, rfl, rfl⟩

theorem near_0 : FloatKind.f64.nearest 0 = 0 := by decide +kernel
theorem near_max : FloatKind.f64.nearest 67108864 = 4724276009111650304 := by decide +kernel

set_option maxHeartbeats 400000 in
theorem is_akey (b : Nat) (w : World) : Calls Tryz.prog 78 #[.float .f64 b] w fun e w' => ∃ n, e = .returned (.bool (Fl.akey b).isSome) ∧ w' = w.drewN n := by
  go_enter Tryz.func78, Tryz.ntmps78
  go_wp2_with fail
  refine (is_integer b _).mono ?_
  rintro e w' ⟨t, n, ht, rfl, rfl⟩
  have ha := Fl.akey_bool b t ht
  rw [near_0, near_max] at ha
  have ha : ((FloatKind.f64.format.order b (FloatKind.f64.nearest t) == some .eq) && ((FloatKind.f64.format.order b 4890909195324358656 == some .lt) && ((FloatKind.f64.format.order b 0 == some .gt) && (FloatKind.f64.format.order b 4724276009111650304 == some .lt)))) = (Fl.akey b).isSome := ha
  have HA := Lib.hid ha
  clear ha ht
  cases h1 : (FloatKind.f64.format.order b (FloatKind.f64.nearest t) == some Ordering.eq) with
  | false =>
    go_wp2
    go_ret
    exact ⟨n, by rw [← HA.out, h1]; rfl, rfl⟩
  | true =>
    cases h2 : (FloatKind.f64.format.order b 4890909195324358656 == some Ordering.lt) with
    | false =>
      go_wp2
      go_ret
      exact ⟨n, by rw [← HA.out, h1, h2]; rfl, rfl⟩
    | true =>
      cases h3 : (FloatKind.f64.format.order b 0 == some Ordering.gt) with
      | false =>
        go_wp2
        go_ret
        exact ⟨n, by rw [← HA.out, h1, h2, h3]; rfl, rfl⟩
      | true =>
        go_wp2
        go_ret
        exact ⟨n, by rw [← HA.out, h1, h2, h3]; rfl, rfl⟩
end Go.Proofs.YtlmadbgpllokfaaGreatFmt
