/- Stores under numbers, by way of RawSet: walked. -/
import Derived.Test.YtlmadbgpllokfaaGreatFmtGet
import Derived.Test.YtlmadbgpllokfaaGreatFmtFl6
namespace Go.Proofs.YtlmadbgpllokfaaGreatFmt
open Go.RowKit Go.Mapy Go.Tbl
set_option maxRecDepth 100000

theorem self_num {b : Nat} (hb : (FloatKind.f64.format.order b b == some .eq) = true) : keyEq (kval (.num b)) (kval (.num b)) = true := by
  show ieq 53 78 (kv 53 78 (.num b)) (kv 53 78 (.num b)) = true
  rw [ieq_kv]
  exact hb

set_option maxHeartbeats 400000 in
theorem tset_num (t : Tbs) (mt : Value) (S : St) (ks : List Value) (ix : List MapEntry) (b : Nat) (v : Value) (isNil : Bool) (w : World) (hv : Val v isNil) (hb : (FloatKind.f64.format.order b b == some .eq) = true) (hk : ∀ k, Fl.akey b = some k → k ≤ 65536) (hkl : ks.length ≤ 1048576) (hl : S.arr.length ≤ 65536) (h : Tab w t mt S ks ix) :
    Calls Tryz.prog 77 #[.pointer (some ⟨t.T, 0, none⟩), .iface 53 (.float .f64 b), v] w (SetKey t mt S ks (.num b) v w) := by
  cases ha : Fl.akey b with
  | some k =>
    obtain ⟨i, rfl⟩ : ∃ i, k = i + 1 := ⟨k - 1, by have := Fl.akey_some ha; omega⟩
    exact (set_num_arr t mt S ks ix i b v isNil w hv ha hl h).mono (fun _ _ hp => hp.key ha (by have := hk _ ha; omega))
  | none =>
    have HA := Lib.hid ha
    have C := Lib.hid (show ∀ n : Nat, Calls Tryz.prog 89 #[.pointer (some ⟨t.T, 0, none⟩), .iface 53 (.float .f64 b), v] (w.drewN n) (SetKey t mt S ks (.num b) v w) from fun n =>
      (set_h t mt S ks ix b v isNil (w.drewN n) hv hkl (self_num hb) (h.upd ((Upd.refl (fun _ => False) w).drewN n) (fun _ _ h => h))).mono (fun e w' hp => by
        obtain ⟨he, t', S', ks', ix', h1, h2, h3, h4, h5, h6, h7⟩ := hp.key hv ha
        exact ⟨he, t', S', ks', ix', h1, ((Upd.refl (Fp t) w).drewN n).trans h2, h3, h4, h5, h6, h7⟩))
    clear hv hb hk hkl hl h ha
    go_enter Tryz.func77, Tryz.ntmps77
    go_wp2_with fail
    refine (is_akey b _).mono ?_
    rintro e w1 ⟨n, rfl, rfl⟩
    rw [HA.out]
    go_wp2_with fail
    refine (C.out n).mono ?_
    rintro e w' ⟨rfl, hp⟩
    have HP := Lib.hid hp
    clear hp C
    go_wp2
    go_end0
    exact ⟨rfl, HP.out⟩

set_option maxHeartbeats 400000 in
theorem is_nan (b : Nat) (w : World) (hb : (FloatKind.f64.format.order b b == some .eq) = true) : Calls Tryz.prog 75 #[.float .f64 b] w fun e w' => e = .returned (.bool false) ∧ w = w' := by
  have hna : (FloatKind.f64.format.order b b != some .eq) = false := by simpa [bne] using hb
  go_enter Tryz.func75, Tryz.ntmps75
  go_wp2
  go_ret
  exact ⟨rfl, rfl⟩

set_option maxHeartbeats 400000 in
theorem l_set_num (L : Option Addr) (t : Tbs) (mt : Value) (S : St) (ks : List Value) (ix : List MapEntry) (b : Nat) (v : Value) (isNil : Bool) (w : World) (hv : Val v isNil) (hb : (FloatKind.f64.format.order b b == some .eq) = true) (hk : ∀ k, Fl.akey b = some k → k ≤ 65536) (hkl : ks.length ≤ 1048576) (hl : S.arr.length ≤ 65536) (h : Tab w t mt S ks ix) :
    Calls Tryz.prog 59 #[.pointer L, .pointer (some ⟨t.T, 0, none⟩), .iface 53 (.float .f64 b), v] w (SetKey t mt S ks (.num b) v w) := by
  have C := Lib.hid (tset_num t mt S ks ix b v isNil w hv hb hk hkl hl h)
  have N := is_nan b w hb
  have hne := ne_nil 53 (.float .f64 b) (by decide)
  clear hv hb hk hkl hl h
  go_enter Tryz.func59, Tryz.ntmps59
  go_wp2_with fail
  refine N.mono ?_
  rintro e w' ⟨rfl, rfl⟩
  go_wp2_with fail
  refine C.out.mono ?_
  rintro e w' ⟨rfl, hp⟩
  have HP := Lib.hid hp
  clear hp C
  go_wp2
  go_end0
  exact ⟨rfl, HP.out⟩
theorem SetKey.from {t : Tbs} {mt : Value} {S : St} {ks : List Value} {k : Key} {v : Value} {w w1 w' : World} {e : Ending} (h : SetKey t mt S ks k v w1 e w') (hu : Upd (fun _ => False) w w1) : SetKey t mt S ks k v w e w' := by
  obtain ⟨he, t', S', ks', ix', h1, h2, h3, h4, h5, h6, h7⟩ := h
  refine ⟨he, t', S', ks', ix', h1, (hu.mono (fun _ _ h => h.elim)).trans h2, fun c hc => ?_, h4, h5, h6, h7⟩
  rcases h3 c hc with h | h
  · exact .inl h
  · exact .inr (Nat.le_trans hu.size h)
end Go.Proofs.YtlmadbgpllokfaaGreatFmt
