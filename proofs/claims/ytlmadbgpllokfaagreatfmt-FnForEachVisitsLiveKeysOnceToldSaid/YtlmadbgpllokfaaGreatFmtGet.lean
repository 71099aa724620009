/- Look-ups at numbers, types of values, raw equality of numbers: walked. -/
import Derived.Test.YtlmadbgpllokfaaGreatFmtKey
namespace Go.Proofs.YtlmadbgpllokfaaGreatFmt
open Go.RowKit Go.Mapy Go.Tbl
set_option maxRecDepth 100000

theorem holds_arr {S : St} {b i : Nat} (hb : Fl.akey b = some (i + 1)) : holds S (.num b) = (S.arr[i]?).getD nilw := by
  show Tbl.look _ _ _ S (.num b) = _
  unfold Tbl.look
  simp only [hb]
  rfl
theorem holds_num {S : St} {b : Nat} (hb : Fl.akey b = none) : holds S (.num b) = (cont keyEq (kval (.num b)) S.num).getD nilw := by
  show Tbl.look _ _ _ S (.num b) = _
  unfold Tbl.look
  simp only [hb]

set_option maxHeartbeats 1600000 in
theorem get_num (t : Tbs) (mt : Value) (S : St) (ks : List Value) (ix : List MapEntry) (b : Nat) (w : World) (h : Tab w t mt S ks ix) :
    Calls Tryz.prog 62 #[.pointer (some ⟨t.T, 0, none⟩), .iface 53 (.float .f64 b)] w fun e w' => ∃ n, e = .returned (holds S (.num b)) ∧ w' = w.drewN n := by
  cases hb : Fl.akey b with
  | some k =>
    obtain ⟨i, rfl⟩ : ∃ i, k = i + 1 := ⟨k - 1, by have := Fl.akey_some hb; omega⟩
    have hi : i < 67108863 := by have := Fl.akey_some hb; omega
    have hcv : ∀ w, (convert 53 3 (.float .f64 b)).run Tryz.prog w = .ok (.int .i64 ((i : Int) + 1)) w := fun w => run_convert_float_int _ _ _ _ _ b _ (by rw [Tryz.underlying53]; rfl) Tryz.underlying3 (by rw [Fl.key_val hb]; simp)
    have hw1 : IntKind.i64.wrap ((i : Int) + 1 - 1) = (i : Int) := by rw [IntWalk.i64_in _ (by omega)]; omega
    have HO := Lib.hid (holds_arr (S := S) hb)
    obtain ⟨g, cap, ha⟩ : ∃ g cap, t.a = .slice (some ⟨g, 0, none⟩) S.arr.length cap := by
      rcases h.ar.2 with ⟨h0, _⟩ | ⟨g, cap, cur, h0, _⟩
      · exact absurd h0 h.an
      · exact ⟨g, cap, h0⟩
    have HB := Lib.hid hb
    have H := Lib.hid h
    have HA := Lib.hid ha
    clear h hb ha
    go_enter Tryz.func62, Tryz.ntmps62
    go_wp2_with fail
    refine (is_akey b _).mono ?_
    rintro e w1 ⟨n, rfl, hwn⟩
    rw [HB.out]
    have h1 : Tab w1 t mt S ks ix := by rw [hwn]; exact H.out.upd ((Upd.refl (fun _ => False) w).drewN n) (fun _ _ h => h)
    have c1 := h1.tb.at (o := 1) rfl
    rw [HA.out] at c1
    have own := h1.ar
    rw [HA.out] at own
    have HW := Lib.hid hwn
    clear hwn h1
    by_cases hc : i < S.arr.length
    · obtain ⟨⟨u, cu⟩, _, hx⟩ := owns_cell own hc
      have HU := Lib.hid (show S.arr[i]? = some u by rw [← hx]; exact cu)
      clear own hx
      have hci : (i : Int) < (S.arr.length : Int) := by omega
      have hc0 : (0 : Int) ≤ (i : Int) := by omega
      go_wp2
      go_ret
      exact ⟨n, by rw [HO.out, HU.out]; rfl, HW.out⟩
    · have HU := Lib.hid (show S.arr[i]? = none from List.getElem?_eq_none (by omega))
      clear own
      go_wp2
      go_ret
      exact ⟨n, by rw [HO.out, HU.out]; rfl, HW.out⟩
  | none =>
    have HO := Lib.hid (holds_num (S := S) hb)
    have HB := Lib.hid hb
    have H := Lib.hid h
    clear h hb
    go_enter Tryz.func62, Tryz.ntmps62
    go_wp2_with fail
    refine (is_akey b _).mono ?_
    rintro e w1 ⟨n, rfl, hwn⟩
    rw [HB.out]
    have h1 : Tab w1 t mt S ks ix := by rw [hwn]; exact H.out.upd ((Upd.refl (fun _ => False) w).drewN n) (fun _ _ h => h)
    have c2 := h1.tb.at (o := 2) rfl
    have HW := Lib.hid hwn
    clear hwn
    cases hd : t.d with
    | none =>
      rw [hd] at c2
      have hnm := h1.nm
      rw [hd] at hnm
      have HN := Lib.hid (show S.num = [] from hnm)
      clear h1 hnm hd
      go_wp2
      go_ret
      exact ⟨n, by rw [HO.out, HN.out]; rfl, HW.out⟩
    | some D =>
      rw [hd] at c2
      obtain ⟨es0, c0, hms, hes⟩ : ∃ e c, w1.heap[D]? = some (.map e c) ∧ e.toList = S.num := by
        have hnm := h1.nm
        rw [hd] at hnm
        exact hnm
      have K := key_run (.num b) es0.toList (fun e he => by rw [hes] at he; exact (h1.fn.keys e he).1)
      cases hsp : spot keyEq (kval (.num b)) es0.toList 0 with
      | some p =>
        have hlk := look_some (k := kval (.num b)) w1 Tryz.underlying85 hms K hsp true
        rw [show kval (.num b) = Value.iface 53 (.float .f64 b) from rfl] at hlk
        have E1 := Lib.hid (show holds S (.num b) = p.2 by
          rw [HO.out, ← hes]
          unfold cont
          rw [hsp]
          rfl)
        clear h1 hms hes K hsp hd
        go_wp2
        go_ret
        exact ⟨n, by rw [E1.out]; rfl, HW.out⟩
      | none =>
        have hlk := look_none (k := kval (.num b)) (z := .nilIface) w1 Tryz.underlying85 (by kernel_rfl) hms K hsp true
        rw [show kval (.num b) = Value.iface 53 (.float .f64 b) from rfl] at hlk
        have E1 := Lib.hid (show holds S (.num b) = nilw by
          rw [HO.out, ← hes]
          unfold cont
          rw [hsp]
          rfl)
        clear h1 hms hes K hsp hd
        go_wp2
        go_ret
        exact ⟨n, by rw [E1.out]; rfl, HW.out⟩

set_option maxHeartbeats 400000 in
theorem l_get_num (L : Option Addr) (t : Tbs) (mt : Value) (S : St) (ks : List Value) (ix : List MapEntry) (b : Nat) (w : World) (h : Tab w t mt S ks ix) :
    Calls Tryz.prog 20 #[.pointer L, .pointer (some ⟨t.T, 0, none⟩), .iface 53 (.float .f64 b)] w fun e w' => ∃ n, e = .returned (holds S (.num b)) ∧ w' = w.drewN n := by
  have H := Lib.hid h
  clear h
  go_enter Tryz.func20, Tryz.ntmps20
  go_wp2_with fail
  refine (get_num t mt S ks ix b _ H.out).mono ?_
  rintro e w' ⟨n, rfl, rfl⟩
  go_wp2
  go_ret
  exact ⟨n, rfl, rfl⟩
end Go.Proofs.YtlmadbgpllokfaaGreatFmt
