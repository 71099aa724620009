/- LocalName and the law's model of the innermost frame: walked. -/
import Derived.Test.YtkoiadebacdklaaGreatFmtUve
import Derived.Test.YtkoiadebacdklaaGreatFmtCnt
import Derived.IntWalk
import Derived.Maps.AppendAt
import Derived.OwnWalk
namespace Go.Proofs.YtkoiadebacdklaaGreatFmt
open Go.RowKit
set_option maxRecDepth 100000

/-- A prototype with n locals. -/
def pro (D n : Nat) : List Value := [.string ⟨#[108, 97, 119]⟩, .int .i64 0, .int .i64 0, .int .u8 0, .int .u8 0, .int .u8 0, .int .u8 0, .slice none 0 0, .slice none 0 0, .slice none 0 0, .slice none 0 0, .slice (some ⟨D, 0, none⟩) n n, .slice none 0 0, .slice none 0 0, .slice none 0 0]

/-- The first local that starts at pc or later. -/
structure Lim (n L : Nat) (st : Nat → Int) (pc : Int) : Prop where
  le : L ≤ n
  lo : ∀ m, m < L → st m < pc
  hi : L < n → pc ≤ st L

theorem lim_any (st : Nat → Int) (pc : Int) : ∀ n, ∃ L, Lim n L st pc
  | 0 => ⟨0, Nat.le_refl _, fun m h => by omega, fun h => by omega⟩
  | n + 1 => by
    obtain ⟨L, h1, h2, h3⟩ := lim_any st pc n
    by_cases h : L < n
    · exact ⟨L, by omega, h2, fun _ => h3 h⟩
    · obtain rfl : L = n := by omega
      by_cases hp : st L < pc
      · refine ⟨L + 1, Nat.le_refl _, fun m hm => ?_, fun h => by omega⟩
        by_cases e : m = L
        · subst e; exact hp
        · exact h2 m (by omega)
      · exact ⟨L, by omega, h2, fun _ => by omega⟩

theorem Lim.above {n L : Nat} {st : Nat → Int} {pc : Int} (h : Lim n L st pc) {j : Nat} (hj : j < n) (hs : ∀ m, m < j → st m < pc) (hp : st j < pc) : j < L := by
  by_cases e : j < L
  · exact e
  · have h1 := h.hi (by omega)
    by_cases e2 : L = j
    · subst e2; omega
    · have := hs L (by omega); omega
theorem Lim.stop {n L : Nat} {st : Nat → Int} {pc : Int} (h : Lim n L st pc) {j : Nat} (hj : j ≤ n) (hs : ∀ m, m < j → st m < pc) (hp : j < n → pc ≤ st j) : j = L := by
  have hle := h.le
  rcases Nat.lt_trichotomy j L with e | e | e
  · have h1 := h.lo j e; have h2 := hp (by omega); omega
  · exact e
  · have h1 := h.hi (by omega); have h2 := hs L e; omega

theorem wrap_step (no : Int) (c : Nat) : IntKind.i64.wrap (IntKind.i64.wrap (no - (c : Int)) - 1) = IntKind.i64.wrap (no - ((c + 1 : Nat) : Int)) := by
  rw [IntKind.wrap_i64, IntKind.wrap_i64, IntKind.wrap_i64]; omega
theorem wrap_nought (no : Int) (c : Nat) (hc : c ≤ 5000) (h1 : -9223372036854775808 ≤ no) (h2 : no ≤ 9223372036854775807) : IntKind.i64.wrap (no - (c : Int)) = 0 ↔ no = (c : Int) := by
  rw [IntKind.wrap_i64]; omega

/-- Is the local live at pc? -/
def live (en : Nat → Int) (pc : Int) (i : Nat) : Bool := decide (pc < en i)

/-- The no-th live local's name, if there is one. -/
def Named (L : Nat) (x : Nat → ByteArray) (en : Nat → Int) (no pc : Int) (w : World) (e : Ending) (w' : World) : Prop :=
  ((∃ i, i < L ∧ pc < en i ∧ (Cnt.cnt (live en pc) i : Int) + 1 = no ∧ e = .returned (.tuple #[.string (x i), .bool true])) ∨ (¬ (1 ≤ no ∧ no ≤ Cnt.cnt (live en pc) L) ∧ e = .returned (.tuple #[.string ByteArray.empty, .bool false]))) ∧ w = w'

set_option maxHeartbeats 1600000 in
theorem local_name (Fb Pb D n L : Nat) (x : Nat → ByteArray) (st en : Nat → Int) (no pc : Int) (w : World) (hn : n ≤ 4096) (h1 : -9223372036854775808 ≤ no) (h2 : no ≤ 9223372036854775807) (hl : Lim n L st pc)
    (hF : Blk w Fb (fnl false (some ⟨Pb, 0, none⟩)) 59) (hP : Blk w Pb (pro D n) 65) (hD : Blk w D (tab n fun i => .pointer (some ⟨D + 1 + i, 0, none⟩)) 51)
    (hL : ∀ i, i < n → Blk w (D + 1 + i) [.string (x i), .int .i64 (st i), .int .i64 (en i)] 53) :
    Calls Tryz.prog 81 #[.pointer (some ⟨Fb, 0, none⟩), .int .i64 no, .int .i64 pc] w (Named L x en no pc w) := by
  have f0 := hF.at (o := 0) rfl
  have f2 := hF.at (o := 2) rfl
  have p11 := hP.at (o := 11) rfl
  have HD := Lib.hid hD
  have HL := Lib.hid hL
  have HLIM := Lib.hid hl
  clear hF hP hD hL hl
  go_enter Tryz.func81, Tryz.ntmps81
  go_wp2_with fail
  go_loop [1, 9] (fun r i => ∃ j : Nat, j ≤ n ∧ i = .int .i64 j ∧ r = .int .i64 (IntKind.i64.wrap (no - (Cnt.cnt (live en pc) j : Int))) ∧ (∀ m, m < j → st m < pc) ∧ ¬ (1 ≤ no ∧ no ≤ Cnt.cnt (live en pc) j)) (fun _ i => n - (intOf i).toNat)
  case atStart =>
    refine ⟨0, Nat.zero_le _, rfl, ?_, fun m h => absurd h (by omega), fun h => ?_⟩
    · have e : IntKind.i64.wrap (no - (Cnt.cnt (live en pc) 0 : Int)) = no := by show IntKind.i64.wrap (no - ((0 : Nat) : Int)) = no; rw [IntKind.wrap_i64]; omega
      rw [e]
    · have h0 : Cnt.cnt (live en pc) 0 = 0 := rfl
      omega
  case round =>
    obtain ⟨j, hj, rfl, rfl, hs, hno⟩ := hrel
    have HSS := Lib.hid hs
    have HNO := Lib.hid hno
    have hcl := Cnt.cnt_le (live en pc) j
    have hst := wrap_step no (Cnt.cnt (live en pc) j)
    have hze := wrap_nought no (Cnt.cnt (live en pc) j + 1) (by omega) h1 h2
    have hsu := Cnt.cnt_succ (live en pc) j
    obtain ⟨r, hr⟩ : ∃ r, IntKind.i64.wrap (no - (Cnt.cnt (live en pc) j : Int)) = r := ⟨_, rfl⟩
    obtain ⟨r', hr'⟩ : ∃ r', IntKind.i64.wrap (no - ((Cnt.cnt (live en pc) j + 1 : Nat) : Int)) = r' := ⟨_, rfl⟩
    rw [hr, hr'] at hst
    rw [hr'] at hze
    rw [hr]
    have HZE := Lib.hid hze
    have HSU := Lib.hid hsu
    have HR := Lib.hid hr
    have HR' := Lib.hid hr'
    have HCL := Lib.hid hcl
    clear hs hno hze hsu hr hr' hcl
    by_cases hlt : j < n
    · have hc := HD.out.at (tab_in hlt)
      have l0 := (HL.out j hlt).at (o := 0) rfl
      have l1 := (HL.out j hlt).at (o := 1) rfl
      have l2 := (HL.out j hlt).at (o := 2) rfl
      by_cases hsj : st j < pc
      · have hjL := Lib.hid (HLIM.out.above hlt HSS.out hsj)
        have HS' := Lib.hid (show ∀ m, m < j + 1 → st m < pc from fun m hm => by
          by_cases e : m = j
          · subst e; exact hsj
          · exact HSS.out m (by omega))
        by_cases hp : pc < en j
        · have HSU' := Lib.hid (show Cnt.cnt (live en pc) (j + 1) = Cnt.cnt (live en pc) j + 1 by rw [HSU.out, if_pos (show live en pc j = true from decide_eq_true hp)])
          by_cases h0 : r' = 0
          · have HE := Lib.hid (HZE.out.mp h0)
            subst h0
            go_wp2
            go_ret2
            exact ⟨.inl ⟨j, hjL.out, hp, by have := HE.out; omega, rfl⟩, rfl⟩
          · have HE := Lib.hid (show no ≠ ((Cnt.cnt (live en pc) j + 1 : Nat) : Int) from fun h => h0 (HZE.out.mpr h))
            go_wp2
            go_round
            case rel => exact ⟨j + 1, by omega, by go_num, by rw [HSU'.out, HR'.out], HS'.out, fun h => by have := HE.out; have := HNO.out; have := HSU'.out; omega⟩
            case measure => simp [intOf]; omega
        · have HSU' := Lib.hid (show Cnt.cnt (live en pc) (j + 1) = Cnt.cnt (live en pc) j by rw [HSU.out, if_neg (show ¬ live en pc j = true by rw [show live en pc j = false from decide_eq_false hp]; decide)]; rfl)
          go_wp2
          go_round
          case rel => exact ⟨j + 1, by omega, by go_num, by rw [HSU'.out, HR.out], HS'.out, fun h => by have := HNO.out; have := HSU'.out; omega⟩
          case measure => simp [intOf]; omega
      · have hjL := Lib.hid (HLIM.out.stop hj HSS.out (fun _ => by omega))
        go_wp2
        go_ret2
        exact ⟨.inr ⟨by rw [← hjL.out]; exact HNO.out, rfl⟩, rfl⟩
    · have hjL := Lib.hid (HLIM.out.stop hj HSS.out (fun h => absurd h hlt))
      obtain rfl : j = n := by omega
      go_wp2
      go_ret2
      exact ⟨.inr ⟨by rw [← hjL.out]; exact HNO.out, rfl⟩, rfl⟩
end Go.Proofs.YtkoiadebacdklaaGreatFmt
