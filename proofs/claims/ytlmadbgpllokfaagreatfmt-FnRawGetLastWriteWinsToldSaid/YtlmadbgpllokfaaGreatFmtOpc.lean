/- The premises of the laws on RawGet: walked. -/
import Derived.Test.YtlmadbgpllokfaaGreatFmtOpb
namespace Go.Proofs.YtlmadbgpllokfaaGreatFmt
open Go.RowKit Go.Mapy Go.Tbl
set_option maxRecDepth 100000

def Small (f : Nat → Rop) (n : Nat) : Prop := ∀ m, m < n → (f m).k.size ≤ 1048576 ∧ (f m).v.size ≤ 1048576
/-- Some bool comes back; if it is true the texts are short. -/
def ToldOps (n q : Nat) (f g : Nat → Rop) (w : World) (e : Ending) (w' : World) : Prop := ∃ b, e = .returned (.bool b) ∧ w = w' ∧ (b = true → Small f n ∧ Small g q)

set_option maxHeartbeats 1600000 in
theorem guard_raw (a1 a2 : Option Addr) (n c1 q c2 : Nat) (f g : Nat → Rop) (B : Nat) (w : World) (h0 : n ≤ 9223372036854775807) (h1 : q ≤ 9223372036854775807) (hf : Rops w B a1 n f) (hg : Rops w B a2 q g) :
    Calls Tryz.prog 11 #[.slice a1 n c1, .slice a2 q c2] w (ToldOps n q f g w) := by
  have HF := Lib.hid hf
  have HG := Lib.hid hg
  clear hf hg
  by_cases hn : n ≤ 1048576
  · go_enter Tryz.func11, Tryz.ntmps11
    go_wp2
    go_loop [5, 6] (fun t i => ∃ (j : Nat) (z : Nat), j ≤ n ∧ z ≤ 1048576 ∧ i = .int .i64 j ∧ t = .int .i64 z ∧ Small f j) (fun _ i => n - (intOf i).toNat)
    case atStart => exact ⟨0, _, Nat.zero_le _, by assumption, rfl, by go_num, fun m hm => absurd hm (by omega)⟩
    case round =>
      obtain ⟨j, z, hj, hz, rfl, rfl, hs⟩ := hrel
      have S1 := Lib.hid hs
      clear hs
      by_cases hlt : j < n
      · obtain ⟨b, off, rfl, -, -, -, r2, r3, -⟩ := HF.out.row hlt
        have i1 : (0 : Int) ≤ (j : Int) := by omega
        have i2 : (j : Int) < (n : Int) := by omega
        by_cases hk : (f j).k.size ≤ 1048576
        case neg =>
          go_wp2
          all_goals
            go_ret
            exact ⟨false, rfl, rfl, fun h => by cases h⟩
        by_cases hv : (f j).v.size ≤ 1048576
        case neg =>
          go_wp2
          all_goals
            go_ret
            exact ⟨false, rfl, rfl, fun h => by cases h⟩
        by_cases hs1 : z + (f j).k.size ≤ 1048576
        case neg =>
          go_wp2
          all_goals
            go_ret
            exact ⟨false, rfl, rfl, fun h => by cases h⟩
        by_cases hs2 : z + (f j).k.size + (f j).v.size ≤ 1048576
        case neg =>
          go_wp2
          all_goals
            go_ret
            exact ⟨false, rfl, rfl, fun h => by cases h⟩
        go_wp2
        go_round
        case rel =>
          refine ⟨j + 1, z + (f j).k.size + (f j).v.size, by omega, by omega, by go_num, by go_num, fun m hm => ?_⟩
          by_cases e : m = j
          · subst e; exact ⟨hk, hv⟩
          · exact S1.out m (by omega)
        case measure => simp [intOf]; omega
      · obtain rfl : j = n := by omega
        by_cases hq : q ≤ 1048576
        case neg =>
          go_wp2
          all_goals
            go_ret
            exact ⟨false, rfl, rfl, fun h => by cases h⟩
        by_cases hzq : z + q ≤ 1048576
        case neg =>
          go_wp2
          all_goals
            go_ret
            exact ⟨false, rfl, rfl, fun h => by cases h⟩
        go_wp2
        go_loop [5, 7] (fun t i => ∃ (j : Nat) (z : Nat), j ≤ q ∧ z ≤ 1048576 ∧ i = .int .i64 j ∧ t = .int .i64 z ∧ Small g j) (fun _ i => q - (intOf i).toNat)
        case atStart => exact ⟨0, _, Nat.zero_le _, by assumption, rfl, by go_num, fun m hm => absurd hm (by omega)⟩
        case round =>
          obtain ⟨j, z, hj, hz, rfl, rfl, hs⟩ := hrel
          have S2 := Lib.hid hs
          clear hs
          by_cases hlt : j < q
          · obtain ⟨b, off, rfl, -, -, -, r2, r3, -⟩ := HG.out.row hlt
            have i1 : (0 : Int) ≤ (j : Int) := by omega
            have i2 : (j : Int) < (q : Int) := by omega
            by_cases hk : (g j).k.size ≤ 1048576
            case neg =>
              go_wp2
              all_goals
                go_ret
                exact ⟨false, rfl, rfl, fun h => by cases h⟩
            by_cases hv : (g j).v.size ≤ 1048576
            case neg =>
              go_wp2
              all_goals
                go_ret
                exact ⟨false, rfl, rfl, fun h => by cases h⟩
            by_cases hs1 : z + (g j).k.size ≤ 1048576
            case neg =>
              go_wp2
              all_goals
                go_ret
                exact ⟨false, rfl, rfl, fun h => by cases h⟩
            by_cases hs2 : z + (g j).k.size + (g j).v.size ≤ 1048576
            case neg =>
              go_wp2
              all_goals
                go_ret
                exact ⟨false, rfl, rfl, fun h => by cases h⟩
            go_wp2
            go_round
            case rel =>
              refine ⟨j + 1, z + (g j).k.size + (g j).v.size, by omega, by omega, by go_num, by go_num, fun m hm => ?_⟩
              by_cases e : m = j
              · subst e; exact ⟨hk, hv⟩
              · exact S2.out m (by omega)
            case measure => simp [intOf]; omega
          · obtain rfl : j = q := by omega
            go_wp2
            go_ret
            exact ⟨true, rfl, rfl, fun _ => ⟨S1.out, S2.out⟩⟩
  · go_enter Tryz.func11, Tryz.ntmps11
    go_wp2
    go_ret
    exact ⟨false, rfl, rfl, fun h => by cases h⟩

set_option maxHeartbeats 1600000 in
theorem guard_agr (a1 a2 : Option Addr) (n c1 q c2 : Nat) (f g : Nat → Rop) (x : Int) (B : Nat) (w : World) (h0 : n ≤ 9223372036854775807) (h1 : q ≤ 9223372036854775807) (hf : Rops w B a1 n f) (hg : Rops w B a2 q g) :
    Calls Tryz.prog 19 #[.slice a1 n c1, .slice a2 q c2, .int .i64 x] w (ToldOps n q f g w) := by
  have HF := Lib.hid hf
  have HG := Lib.hid hg
  clear hf hg
  by_cases hn : n ≤ 1048576
  · go_enter Tryz.func19, Tryz.ntmps19
    go_wp2
    go_loop [7, 8] (fun t i => ∃ (j : Nat) (z : Nat), j ≤ n ∧ z ≤ 1048576 ∧ i = .int .i64 j ∧ t = .int .i64 z ∧ Small f j) (fun _ i => n - (intOf i).toNat)
    case atStart => exact ⟨0, _, Nat.zero_le _, by assumption, rfl, by go_num, fun m hm => absurd hm (by omega)⟩
    case round =>
      obtain ⟨j, z, hj, hz, rfl, rfl, hs⟩ := hrel
      have S1 := Lib.hid hs
      clear hs
      by_cases hlt : j < n
      · obtain ⟨b, off, rfl, -, -, -, r2, r3, -⟩ := HF.out.row hlt
        have i1 : (0 : Int) ≤ (j : Int) := by omega
        have i2 : (j : Int) < (n : Int) := by omega
        by_cases hk : (f j).k.size ≤ 1048576
        case neg =>
          go_wp2
          all_goals
            go_ret
            exact ⟨false, rfl, rfl, fun h => by cases h⟩
        by_cases hv : (f j).v.size ≤ 1048576
        case neg =>
          go_wp2
          all_goals
            go_ret
            exact ⟨false, rfl, rfl, fun h => by cases h⟩
        by_cases hs1 : z + (f j).k.size ≤ 1048576
        case neg =>
          go_wp2
          all_goals
            go_ret
            exact ⟨false, rfl, rfl, fun h => by cases h⟩
        by_cases hs2 : z + (f j).k.size + (f j).v.size ≤ 1048576
        case neg =>
          go_wp2
          all_goals
            go_ret
            exact ⟨false, rfl, rfl, fun h => by cases h⟩
        go_wp2
        go_round
        case rel =>
          refine ⟨j + 1, z + (f j).k.size + (f j).v.size, by omega, by omega, by go_num, by go_num, fun m hm => ?_⟩
          by_cases e : m = j
          · subst e; exact ⟨hk, hv⟩
          · exact S1.out m (by omega)
        case measure => simp [intOf]; omega
      · obtain rfl : j = n := by omega
        by_cases hq : q ≤ 1048576
        case neg =>
          go_wp2
          all_goals
            go_ret
            exact ⟨false, rfl, rfl, fun h => by cases h⟩
        by_cases hzq : z + q ≤ 1048576
        case neg =>
          go_wp2
          all_goals
            go_ret
            exact ⟨false, rfl, rfl, fun h => by cases h⟩
        go_wp2
        go_loop [7, 9] (fun t i => ∃ (j : Nat) (z : Nat), j ≤ q ∧ z ≤ 1048576 ∧ i = .int .i64 j ∧ t = .int .i64 z ∧ Small g j) (fun _ i => q - (intOf i).toNat)
        case atStart => exact ⟨0, _, Nat.zero_le _, by assumption, rfl, by go_num, fun m hm => absurd hm (by omega)⟩
        case round =>
          obtain ⟨j, z, hj, hz, rfl, rfl, hs⟩ := hrel
          have S2 := Lib.hid hs
          clear hs
          by_cases hlt : j < q
          · obtain ⟨b, off, rfl, -, -, -, r2, r3, -⟩ := HG.out.row hlt
            have i1 : (0 : Int) ≤ (j : Int) := by omega
            have i2 : (j : Int) < (q : Int) := by omega
            by_cases hk : (g j).k.size ≤ 1048576
            case neg =>
              go_wp2
              all_goals
                go_ret
                exact ⟨false, rfl, rfl, fun h => by cases h⟩
            by_cases hv : (g j).v.size ≤ 1048576
            case neg =>
              go_wp2
              all_goals
                go_ret
                exact ⟨false, rfl, rfl, fun h => by cases h⟩
            by_cases hs1 : z + (g j).k.size ≤ 1048576
            case neg =>
              go_wp2
              all_goals
                go_ret
                exact ⟨false, rfl, rfl, fun h => by cases h⟩
            by_cases hs2 : z + (g j).k.size + (g j).v.size ≤ 1048576
            case neg =>
              go_wp2
              all_goals
                go_ret
                exact ⟨false, rfl, rfl, fun h => by cases h⟩
            go_wp2
            go_round
            case rel =>
              refine ⟨j + 1, z + (g j).k.size + (g j).v.size, by omega, by omega, by go_num, by go_num, fun m hm => ?_⟩
              by_cases e : m = j
              · subst e; exact ⟨hk, hv⟩
              · exact S2.out m (by omega)
            case measure => simp [intOf]; omega
          · obtain rfl : j = q := by omega
            go_wp2
            go_ret
            exact ⟨true, rfl, rfl, fun _ => ⟨S1.out, S2.out⟩⟩
  · go_enter Tryz.func19, Tryz.ntmps19
    go_wp2
    go_ret
    exact ⟨false, rfl, rfl, fun h => by cases h⟩

set_option maxHeartbeats 800000 in
theorem ops_bytes (a : Option Addr) (n c : Nat) (f : Nat → Rop) (B : Nat) (w : World) (hn : n ≤ 4096) (hs : Small f n) (hf : Rops w B a n f) :
    Calls Tryz.prog 12 #[.slice a n c] w fun e w' => ∃ z : Nat, z ≤ 8388608 ∧ e = .returned (.int .i64 z) ∧ Upd (fun _ => False) w w' := by
  have HF := Lib.hid hf
  have HS := Lib.hid hs
  clear hf hs
  go_enter Tryz.func12, Tryz.ntmps12
  go_wp2
  go_loopw [3, 4] (fun t i wr => ∃ (j z : Nat), j ≤ n ∧ z ≤ 2097152 ∧ i = .int .i64 j ∧ t = .int .i64 z ∧ Upd (fun _ => False) w wr) (fun _ i _ => n - (intOf i).toNat)
  case atStart => exact ⟨0, 48 * n, Nat.zero_le _, by omega, rfl, by go_num, Upd.refl _ _⟩
  case round =>
    obtain ⟨j, z, hj, hz, rfl, rfl, hu⟩ := hrel
    have HU := Lib.hid hu
    clear hu
    by_cases hlt : j < n
    · obtain ⟨b, off, rfl, -, -, -, r2, r3, -⟩ := (HF.out.upd HU.out (fun c h => h.elim)).row hlt
      have i1 : (0 : Int) ≤ (j : Int) := by omega
      have i2 : (j : Int) < (n : Int) := by omega
      obtain ⟨hk, hv⟩ := HS.out j hlt
      go_wp2_with fail
      go_quiet (fail)
      by_cases hb : z + ((f j).k.size + (f j).v.size) ≤ 2097152
      · go_wp2
        go_roundw
        case rel => exact ⟨j + 1, z + ((f j).k.size + (f j).v.size), by omega, hb, by go_num, by go_num, HU.out.drewN _⟩
        case measure => simp [intOf]; omega
      · go_wp2
        go_ret
        exact ⟨z + ((f j).k.size + (f j).v.size), by omega, by go_num, HU.out.drewN _⟩
    · obtain rfl : j = n := by omega
      go_wp2
      go_ret
      exact ⟨z, by omega, rfl, HU.out⟩
end Go.Proofs.YtlmadbgpllokfaaGreatFmt
