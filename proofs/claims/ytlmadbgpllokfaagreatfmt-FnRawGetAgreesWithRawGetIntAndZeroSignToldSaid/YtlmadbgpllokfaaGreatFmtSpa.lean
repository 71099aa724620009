/- What the law on RawGetInt beside RawSetInt needs: walked. -/
import Derived.Test.YtlmadbgpllokfaaGreatFmtLwb
import Derived.Test.YtlmadbgpllokfaaGreatFmtFl5
namespace Go.Proofs.YtlmadbgpllokfaaGreatFmt
open Go.RowKit Go.Mapy Go.Tbl
set_option maxRecDepth 100000

theorem self_any (k : Int) : keyEq (kval (.num (FloatKind.f64.nearest k))) (kval (.num (FloatKind.f64.nearest k))) = true := by
  show ieq 53 78 (kv 53 78 (.num (FloatKind.f64.nearest k))) (kv 53 78 (.num (FloatKind.f64.nearest k))) = true
  rw [ieq_kv]
  show (FloatKind.f64.format.order (FloatKind.f64.nearest k) (FloatKind.f64.nearest k) == some .eq) = true
  rw [beq_iff_eq]
  exact Fl.near_self k

/-- What the array part holds at an integer. -/
def got (S : St) (p : Int) : Value := if 1 ≤ p ∧ p < 67108864 then (S.arr[(p - 1).toNat]?).getD nilw else nilw

set_option maxHeartbeats 800000 in
theorem get_int (t : Tbs) (mt : Value) (S : St) (ks : List Value) (ix : List MapEntry) (p : Int) (w : World) (hl : S.arr.length ≤ 65536) (hp : -9223372036854775808 ≤ p ∧ p ≤ 9223372036854775807) (h : Tab w t mt S ks ix) :
    Calls Tryz.prog 63 #[.pointer (some ⟨t.T, 0, none⟩), .int .i64 p] w fun e w' => e = .returned (got S p) ∧ w = w' := by
  obtain ⟨g, cap, ha⟩ : ∃ g cap, t.a = .slice (some ⟨g, 0, none⟩) S.arr.length cap := by
    rcases h.ar.2 with ⟨h0, _⟩ | ⟨g, cap, cur, h0, _⟩
    · exact absurd h0 h.an
    · exact ⟨g, cap, h0⟩
  have c1 := h.tb.at (o := 1) rfl
  have own := h.ar
  rw [ha] at c1 own
  clear h ha
  obtain ⟨q, hq⟩ : ∃ q, IntKind.i64.wrap (p - 1) = q := ⟨_, rfl⟩
  have hq2 : q = p - 1 ∨ (p = -9223372036854775808 ∧ q = 9223372036854775807) := by
    by_cases hmin : p = -9223372036854775808
    · right
      refine ⟨hmin, ?_⟩
      rw [← hq, hmin]
      decide
    · left
      rw [← hq]
      exact IntWalk.i64_in _ (by omega)
  by_cases hin : 0 ≤ q ∧ q < (S.arr.length : Int)
  · obtain ⟨i, rfl⟩ : ∃ i : Nat, q = (i : Int) := ⟨q.toNat, by omega⟩
    have hc : i < S.arr.length := by omega
    obtain ⟨⟨u, cu⟩, _, hx⟩ := owns_cell own hc
    have HO := Lib.hid (show got S p = u by
      unfold got
      rw [if_pos (by omega), show (p - 1).toNat = i by omega, ← hx, cu]
      rfl)
    clear own hx hp hq2
    have hci : (i : Int) < (S.arr.length : Int) := by omega
    have hc0 : (0 : Int) ≤ (i : Int) := by omega
    go_enter Tryz.func63, Tryz.ntmps63
    go_wp2
    go_ret
    exact ⟨by rw [HO.out]; rfl, rfl⟩
  · have HO := Lib.hid (show got S p = nilw by
      unfold got
      split
      · rw [List.getElem?_eq_none (by omega)]; rfl
      · rfl)
    clear own hp hq2
    by_cases h0 : 0 ≤ q
    · have hge : ¬ q < (S.arr.length : Int) := fun h => hin ⟨h0, h⟩
      clear hin
      go_enter Tryz.func63, Tryz.ntmps63
      go_wp2
      go_ret
      exact ⟨by rw [HO.out]; rfl, rfl⟩
    · have hlt : q < 0 := by omega
      clear hin
      go_enter Tryz.func63, Tryz.ntmps63
      go_wp2
      go_ret
      exact ⟨by rw [HO.out]; rfl, rfl⟩

set_option maxHeartbeats 400000 in
theorem l_get_int (L : Option Addr) (t : Tbs) (mt : Value) (S : St) (ks : List Value) (ix : List MapEntry) (p : Int) (w : World) (hl : S.arr.length ≤ 65536) (hp : -9223372036854775808 ≤ p ∧ p ≤ 9223372036854775807) (h : Tab w t mt S ks ix) :
    Calls Tryz.prog 21 #[.pointer L, .pointer (some ⟨t.T, 0, none⟩), .int .i64 p] w fun e w' => e = .returned (got S p) ∧ w = w' := by
  have C := Lib.hid (get_int t mt S ks ix p w hl hp h)
  clear h hl hp
  go_enter Tryz.func21, Tryz.ntmps21
  go_wp2_with fail
  refine C.out.mono ?_
  rintro e w' ⟨rfl, rfl⟩
  go_wp2
  go_ret
  exact ⟨rfl, rfl⟩
end Go.Proofs.YtlmadbgpllokfaaGreatFmt
