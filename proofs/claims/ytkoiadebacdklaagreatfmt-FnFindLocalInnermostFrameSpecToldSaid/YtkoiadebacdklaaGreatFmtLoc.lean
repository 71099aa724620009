/- findLocal and the law's guard: walked. -/
import Derived.Test.YtkoiadebacdklaaGreatFmtLob
import Derived.Test.YtkoiadebacdklaaGreatFmtUvg
namespace Go.Proofs.YtkoiadebacdklaaGreatFmt
open Go.RowKit
set_option maxRecDepth 100000

theorem infoFr : ∃ j, Tryz.prog.info? 129 = some j := Option.isSome_iff_exists.1 (by kernel_rfl)
@[go_sem] theorem eqFr (a : Addr) (w : World) : (binOp .eql 42 (.pointer (some a)) (.pointer (some a))).run Tryz.prog w = .ok (.bool true) w := by
  obtain ⟨j, hj⟩ := infoFr
  exact run_eql_ptr_same w a Tryz.underlying42 hj

set_option maxHeartbeats 1600000 in
theorem find_local (S R A B F cap T Fb Pb D n L : Nat) (v : Nat → Value) (x : Nat → ByteArray) (st en : Nat → Int) (p0 pc lb no : Int) (g : Bool) (w : World) (hn : n ≤ 4096) (hT : T ≤ 65536) (h1 : -9223372036854775808 ≤ no) (h2 : no ≤ 9223372036854775807) (hlb : 0 ≤ lb ∧ lb ≤ T)
    (hpc : IntKind.i64.wrap (p0 - 1) = pc) (hl : Lim n L st pc)
    (hs : S2 w S R A B F cap T 1 1 (some ⟨F, 0, none⟩) none false false v (fun m => if m = 0 then frm 0 Fb none p0 lb lb else fr0))
    (hF : Blk w Fb (fnl g (if g then none else some ⟨Pb, 0, none⟩)) 59) (hP : g = false → Blk w Pb (pro D n) 65) (hD : Blk w D (tab n fun i => .pointer (some ⟨D + 1 + i, 0, none⟩)) 51)
    (hL : ∀ i, i < n → Blk w (D + 1 + i) [.string (x i), .int .i64 (st i), .int .i64 (en i)] 53) :
    Calls Tryz.prog 60 #[.pointer (some ⟨S, 0, none⟩), .pointer (some ⟨F, 0, none⟩), .int .i64 no] w (IsInner L x en no pc ((T : Int) - lb) g w) := by
  have hlen : ∀ i, i < 1 → (if i = 0 then frm 0 Fb none p0 lb lb else fr0).length = 10 := fun i _ => by split <;> rfl
  have c1 := hs.frame hlen (i := 0) (c := 1) (by omega) (by omega) rfl
  have c3 := hs.frame hlen (i := 0) (c := 3) (by omega) (by omega) rfl
  have c5 := hs.frame hlen (i := 0) (c := 5) (by omega) (by omega) rfl
  have s16 := hs.st.at (o := 16) rfl
  have s13 := hs.st.at (o := 13) rfl
  rw [show 0 * 10 + 1 = 1 from rfl] at c1
  rw [show 0 * 10 + 3 = 3 from rfl] at c3
  rw [show 0 * 10 + 5 = 5 from rfl] at c5
  have f0 := hF.at (o := 0) rfl
  have HS := Lib.hid hs
  have HD := Lib.hid hD
  have HL := Lib.hid hL
  have HLIM := Lib.hid hl
  have hw2 : IntKind.i64.wrap ((T : Int) - lb) = (T : Int) - lb := by rw [IntWalk.i64_in _ (by omega)]
  cases g with
  | true =>
    have HT := Lib.hid (tail_of L x en no pc ((T : Int) - lb) true (.inl rfl))
    clear hs hF hP hD hL hl hlen
    by_cases hd : no ≤ (T : Int) - lb
    · have HI := Lib.hid (HT.out.1 hd)
      go_enter Tryz.func60, Tryz.ntmps60
      go_wp2_with fail
      refine (reg_top S R A B F cap T 1 1 _ none false false v _ _ (by exact HS.out)).mono ?_
      rintro e w' ⟨rfl, rfl⟩
      go_wp2
      go_ret
      exact ⟨_, rfl, HI.out, Upd.refl _ _⟩
    · have HI := Lib.hid (HT.out.2 hd)
      go_enter Tryz.func60, Tryz.ntmps60
      go_wp2_with fail
      refine (reg_top S R A B F cap T 1 1 _ none false false v _ _ (by exact HS.out)).mono ?_
      rintro e w' ⟨rfl, rfl⟩
      go_wp2
      go_ret
      exact ⟨_, rfl, HI.out, Upd.refl _ _⟩
  | false =>
    have HF := Lib.hid hF
    have HP := Lib.hid (hP rfl)
    clear hs hF hP hD hL hl hlen
    go_enter Tryz.func60, Tryz.ntmps60
    go_wp2_with fail
    refine (local_name Fb Pb D n L x st en no pc _ hn h1 h2 HLIM.out (by exact HF.out) HP.out HD.out HL.out).mono ?_
    rintro e w' ⟨⟨i, hi1, hi2, hi3, rfl⟩ | ⟨hno, rfl⟩, rfl⟩
    · have HI := Lib.hid (show Inner L x en no pc ((T : Int) - lb) false (x i) from .inl ⟨rfl, i, hi1, hi2, hi3, rfl⟩)
      clear hi2 hi3
      go_wp2
      go_ret
      exact ⟨_, rfl, HI.out, Upd.refl _ _⟩
    · have HT := Lib.hid (tail_of L x en no pc ((T : Int) - lb) false (.inr hno))
      clear hno
      by_cases hd : no ≤ (T : Int) - lb
      · have HI := Lib.hid (HT.out.1 hd)
        go_wp2_with fail
        refine (reg_top S R A B F cap T 1 1 _ none false false v _ _ (by exact HS.out)).mono ?_
        rintro e w' ⟨rfl, rfl⟩
        go_wp2
        go_ret
        exact ⟨_, rfl, HI.out, Upd.refl _ _⟩
      · have HI := Lib.hid (HT.out.2 hd)
        go_wp2_with fail
        refine (reg_top S R A B F cap T 1 1 _ none false false v _ _ (by exact HS.out)).mono ?_
        rintro e w' ⟨rfl, rfl⟩
        go_wp2
        go_ret
        exact ⟨_, rfl, HI.out, Upd.refl _ _⟩

set_option maxHeartbeats 1600000 in
theorem guard_find (aR aI aB : Option Addr) (n cR u cI k cB : Nat) (p0 lb top no : Int) (g : Bool) (s : Nat → ByteArray) (w : World) (h0 : n ≤ 9223372036854775807) (h1 : u ≤ 9223372036854775807) (h2 : k ≤ 9223372036854775807) (hR : Cells w aR n fun j => .string (s j)) :
    Calls Tryz.prog 20 #[.slice aR n cR, .slice aI u cI, .slice aB k cB, .int .i64 p0, .int .i64 lb, .int .i64 top, .int .i64 no, .bool g] w (ToldS n s w) := by
  have HR := Lib.hid hR
  clear hR
  by_cases hn : n ≤ 1048576
  · go_enter Tryz.func20, Tryz.ntmps20
    go_wp2
    go_loop [17, 18] (fun t i => ∃ (j : Nat) (z : Nat), j ≤ n ∧ z ≤ 1048576 ∧ i = .int .i64 j ∧ t = .int .i64 z ∧ ∀ m, m < j → (s m).size ≤ 1048576) (fun _ i => n - (intOf i).toNat)
    case atStart => exact ⟨0, n, Nat.zero_le _, hn, rfl, rfl, fun m hm => absurd hm (by omega)⟩
    case round =>
      obtain ⟨j, z, hj, hz, rfl, rfl, hs⟩ := hrel
      have HS := Lib.hid hs
      clear hs
      by_cases hlt : j < n
      · obtain ⟨b, off, rfl, hc⟩ := HR.out.one hlt
        by_cases hsz : (s j).size ≤ 1048576
        · go_wp2
          · go_ret
            exact ⟨false, rfl, rfl, fun h => by cases h⟩
          · go_round
            case rel =>
              refine ⟨j + 1, z + (s j).size, by omega, by omega, by go_num, by go_num, fun m hm => ?_⟩
              by_cases e : m = j
              · subst e; exact hsz
              · exact HS.out m (by omega)
            case measure => simp [intOf]; omega
        · go_wp2
          go_ret
          exact ⟨false, rfl, rfl, fun h => by cases h⟩
      · obtain rfl : j = n := by omega
        by_cases hu : u ≤ 1048576
        case neg =>
          go_wp2
          go_ret
          exact ⟨false, rfl, rfl, fun h => by cases h⟩
        by_cases hk : k ≤ 1048576
        case neg =>
          go_wp2
          all_goals
            go_ret
            exact ⟨false, rfl, rfl, fun h => by cases h⟩
        go_wp2
        all_goals
          go_ret
          exact ⟨_, rfl, rfl, fun _ => HS.out⟩
  · go_enter Tryz.func20, Tryz.ntmps20
    go_wp2
    go_ret
    exact ⟨false, rfl, rfl, fun h => by cases h⟩
end Go.Proofs.YtkoiadebacdklaaGreatFmt
