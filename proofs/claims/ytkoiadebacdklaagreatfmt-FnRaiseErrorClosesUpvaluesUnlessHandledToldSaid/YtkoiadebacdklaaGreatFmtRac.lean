/- FnRaiseErrorPushesFormatVerbatim: walked. -/
import Derived.Test.YtkoiadebacdklaaGreatFmtRab
import Derived.Test.YtkoiadebacdklaaGreatFmtUvg
import Derived.Test.YtkoiadebacdklaaGreatFmtUvf
import Derived.Test.YtkoiadebacdklaaGreatFmtClonU
namespace Go.Proofs.YtkoiadebacdklaaGreatFmt
open Go.RowKit
set_option maxRecDepth 100000

set_option maxHeartbeats 1600000 in
theorem guard_push (aR : Option Addr) (n cR : Nat) (free : Int) (fm : ByteArray) (err : Bool) (s : Nat → ByteArray) (w : World) (_h0 : n ≤ 9223372036854775807) (hR : Cells w aR n fun j => .string (s j)) :
    Calls Tryz.prog 11 #[.slice aR n cR, .int .i64 free, .string fm, .bool err] w (ToldS n s w) := by
  have HR := Lib.hid hR
  clear hR
  by_cases hn : n ≤ 1048576
  · go_enter Tryz.func11, Tryz.ntmps11
    go_wp2
    go_loop [9, 10] (fun t i => ∃ (j : Nat) (z : Nat), j ≤ n ∧ z ≤ 1048576 ∧ i = .int .i64 j ∧ t = .int .i64 z ∧ ∀ m, m < j → (s m).size ≤ 1048576) (fun _ i => n - (intOf i).toNat)
    case atStart => exact ⟨0, n, Nat.zero_le _, hn, rfl, rfl, fun m hm => absurd hm (by omega)⟩
    case round =>
      obtain ⟨j, z, hj, hz, rfl, rfl, hs⟩ := hrel
      have HS := Lib.hid hs
      clear hs
      by_cases hlt : j < n
      · obtain ⟨b, off, rfl, hc⟩ := HR.out.one hlt
        by_cases hsz : (s j).size ≤ 1048576
        · go_wp2
          · go_ret
            exact ⟨false, rfl, rfl, fun h => by cases h⟩
          · go_round
            case rel =>
              refine ⟨j + 1, z + (s j).size, by omega, by omega, by go_num, by go_num, fun m hm => ?_⟩
              by_cases e : m = j
              · subst e; exact hsz
              · exact HS.out m (by omega)
            case measure => simp [intOf]; omega
        · go_wp2
          go_ret
          exact ⟨false, rfl, rfl, fun h => by cases h⟩
      · obtain rfl : j = n := by omega
        by_cases h0' : fm.size ≤ 1048576
        case neg =>
          go_wp2
          all_goals
            go_ret
            exact ⟨false, rfl, rfl, fun h => by cases h⟩
        go_wp2
        all_goals
          go_ret
          exact ⟨_, rfl, rfl, fun _ => HS.out⟩
  · go_enter Tryz.func11, Tryz.ntmps11
    go_wp2
    go_ret
    exact ⟨false, rfl, rfl, fun h => by cases h⟩

set_option maxHeartbeats 1600000 in
theorem guard_shut (aR aI : Option Addr) (n cR u cI : Nat) (lb : Int) (err : Bool) (fm : ByteArray) (s : Nat → ByteArray) (w : World) (_h0 : n ≤ 9223372036854775807) (h1 : u ≤ 9223372036854775807) (hR : Cells w aR n fun j => .string (s j)) :
    Calls Tryz.prog 26 #[.slice aR n cR, .slice aI u cI, .int .i64 lb, .bool err, .string fm] w (ToldS n s w) := by
  have HR := Lib.hid hR
  clear hR
  by_cases hn : n ≤ 1048576
  · go_enter Tryz.func26, Tryz.ntmps26
    go_wp2
    go_loop [11, 12] (fun t i => ∃ (j : Nat) (z : Nat), j ≤ n ∧ z ≤ 1048576 ∧ i = .int .i64 j ∧ t = .int .i64 z ∧ ∀ m, m < j → (s m).size ≤ 1048576) (fun _ i => n - (intOf i).toNat)
    case atStart => exact ⟨0, n, Nat.zero_le _, hn, rfl, rfl, fun m hm => absurd hm (by omega)⟩
    case round =>
      obtain ⟨j, z, hj, hz, rfl, rfl, hs⟩ := hrel
      have HS := Lib.hid hs
      clear hs
      by_cases hlt : j < n
      · obtain ⟨b, off, rfl, hc⟩ := HR.out.one hlt
        by_cases hsz : (s j).size ≤ 1048576
        · go_wp2
          · go_ret
            exact ⟨false, rfl, rfl, fun h => by cases h⟩
          · go_round
            case rel =>
              refine ⟨j + 1, z + (s j).size, by omega, by omega, by go_num, by go_num, fun m hm => ?_⟩
              by_cases e : m = j
              · subst e; exact hsz
              · exact HS.out m (by omega)
            case measure => simp [intOf]; omega
        · go_wp2
          go_ret
          exact ⟨false, rfl, rfl, fun h => by cases h⟩
      · obtain rfl : j = n := by omega
        by_cases h0' : u ≤ 1048576
        case neg =>
          go_wp2
          all_goals
            go_ret
            exact ⟨false, rfl, rfl, fun h => by cases h⟩
        by_cases h1' : fm.size ≤ 1048576
        case neg =>
          go_wp2
          all_goals
            go_ret
            exact ⟨false, rfl, rfl, fun h => by cases h⟩
        go_wp2
        all_goals
          go_ret
          exact ⟨_, rfl, rfl, fun _ => HS.out⟩
  · go_enter Tryz.func26, Tryz.ntmps26
    go_wp2
    go_ret
    exact ⟨false, rfl, rfl, fun h => by cases h⟩

set_option maxHeartbeats 400000 in
/-- Closing with no frame does nothing. -/
theorem close_none (S R A B F cap top k sp : Nat) (err : Bool) (v : Nat → Value) (fr : Nat → List Value) (w : World) (he : err = false) (h : S2 w S R A B F cap top k sp none none false err v fr) :
    Calls Tryz.prog 63 #[.pointer (some ⟨S, 0, none⟩)] w (Mid S R A B F cap top k sp none v fr (fun _ => False) (fun uv _ => uv = none) w) := by
  subst he
  have s16 := h.st.at (o := 16) rfl
  have H := Lib.hid h
  clear h
  go_enter Tryz.func63, Tryz.ntmps63
  go_wp2
  go_loop [2] (fun cf => cf = .pointer none) (fun _ => 0)
  case atStart => rfl
  case round =>
    obtain rfl := hrel
    go_wp2
    go_end0
    exact ⟨rfl, none, Upd.refl _ _, rfl, H.out⟩

set_option maxHeartbeats 400000 in
theorem zz_raise (S R A B F cap top k sp : Nat) (cur uv : Option Addr) (err : Bool) (v : Nat → Value) (fr : Nat → List Value) (T : Nat → Prop) (Q : Option Addr → World → Prop) (s : ByteArray) (w : World) (hcap : cap ≤ 131072) (ht : top ≤ cap) (h1 : One v cap)
    (h : S2 w S R A B F cap top k sp cur uv false err v fr) (hcl : err = false → Calls Tryz.prog 63 #[.pointer (some ⟨S, 0, none⟩)] w (Mid S R A B F cap top k sp cur v fr T Q w)) :
    Calls Tryz.prog 17 #[.pointer (some ⟨S, 0, none⟩), .int .i64 0, .string s] w (RaisedBy S R A B F cap top k sp cur uv err v fr T Q s w) := by
  have C := Lib.hid (raise_error S R A B F cap top k sp cur uv err v fr T Q s w hcap ht h1 h hcl)
  clear hcap ht h1 h hcl
  go_enter Tryz.func17, Tryz.ntmps17
  go_wp2_with fail
  refine C.out.mono ?_
  rintro e w' ⟨rfl, hp⟩
  have HP := Lib.hid hp
  clear hp C
  go_wp2
  go_end0
  exact ⟨rfl, HP.out⟩

theorem one_vals (x : Nat → ByteArray) (n cap : Nat) : One (vals x n) cap := fun m _ => by
  unfold vals
  split <;> rfl
theorem vals_succ (x : Nat → ByteArray) (j : Nat) : vals x (j + 1) = fun m => if m = j then sv (x j) else vals x j m := by
  funext m
  unfold vals
  by_cases e : m = j
  · subst e; rw [if_pos (by omega), if_pos rfl]
  · rw [if_neg e]
    by_cases e2 : m < j
    · rw [if_pos e2, if_pos (by omega)]
    · rw [if_neg e2, if_neg (by omega)]

set_option maxHeartbeats 1600000 in
theorem push_in (aR : Option Addr) (n cR : Nat) (free : Int) (fm : ByteArray) (err : Bool) (s : Nat → ByteArray) (w : World) (hn : n ≤ 4096) (hR : Cells w aR n fun j => .string (s j)) :
    Calls Tryz.prog 3 #[.slice aR n cR, .int .i64 free, .string fm, .bool err] w (Good w) := by
  have HR := Lib.hid hR
  clear hR
  go_enter Tryz.func3, Tryz.ntmps3
  go_wp2_with fail
  refine (guard_push aR n cR free fm err s _ (by omega) HR.out).mono ?_
  rintro e w' ⟨b, rfl, rfl, hs⟩
  cases b with
  | false =>
    go_wp2
    go_ret
    exact ⟨rfl, Below.refl _ _⟩
  | true =>
    have HS := Lib.hid (hs rfl)
    clear hs
    by_cases hf : fm.size ≤ 65536
    case neg =>
      go_wp2
      go_ret
      exact ⟨rfl, Below.refl _ _⟩
    go_wp2_with fail
    refine (str_bytes aR n cR s _ hn HR.out HS.out).mono ?_
    rintro e w' ⟨z, hz, rfl, rfl⟩
    by_cases hbig : z + fm.size ≤ 1048576
    case neg =>
      go_wp2
      go_ret
      exact ⟨rfl, Below.refl _ _⟩
    by_cases f1 : free < 0
    · go_wp2
      go_ret
      exact ⟨rfl, Below.refl _ _⟩
    by_cases f2 : 4096 < free
    · go_wp2
      go_ret
      exact ⟨rfl, Below.refl _ _⟩
    obtain ⟨q, rfl⟩ : ∃ q : Nat, free = (q : Int) := ⟨free.toNat, by omega⟩
    go_wp2_with fail
    refine (cloneStr aR n cR s _ (by omega) HR.out).mono ?_
    rintro e w1 ⟨a1, c1, rfl, hu1, h1⟩
    have U1 := Lib.hid hu1
    have H1 := Lib.hid (Held.of_new h1)
    clear hu1 h1 hz hbig HS
    go_wp2_with fail
    refine (new_state2 n q 1 _ (by omega) (by omega) (by omega)).mono ?_
    rintro e w2 ⟨S, R, A, B, F, rfl, hu2, hold, hs2⟩
    have U2 := Lib.hid hu2
    have S2' := Lib.hid hs2
    have OLD := Lib.hid hold
    clear hu2 hs2 hold
    go_wp2_with fail
    go_loopw [11] (fun i wr => ∃ j : Nat, j ≤ n ∧ i = .int .i64 j ∧ Upd (fun _ => False) w1 wr ∧ S2 wr S R A B F (n + q) n 1 0 none none false false (vals s j) (fun _ => fr0)) (fun i _ => n - (intOf i).toNat)
    case atStart =>
      refine ⟨0, Nat.zero_le _, rfl, U2.out, ?_⟩
      have e : vals s 0 = fun _ => Value.nilIface := by funext m; unfold vals; rw [if_neg (by omega)]
      rw [e]
      exact S2'.out
    case round =>
      obtain ⟨j, hj, rfl, hu3, hs3⟩ := hrel
      have U3 := Lib.hid hu3
      have S3 := Lib.hid hs3
      clear hu3 hs3 S2' U2
      by_cases hlt : j < n
      · obtain ⟨b, off, rfl, hbl, hc⟩ := (H1.out.upd U3.out (fun c h => h.elim)) j hlt
        have i1 : (0 : Int) ≤ (j : Int) := by omega
        have i2 : (j : Int) < (n : Int) := by omega
        clear hbl
        go_wp2_with fail
        refine (set_reg S R A B F (n + q) n 1 0 j none none false false (vals s j) (fun _ => fr0) (s j) _ (by omega) (by omega) S3.out).mono ?_
        rintro e w4 ⟨rfl, hu4, hs4⟩
        have U4 := Lib.hid (U3.out.trans_new hu4 (fun c h => by have h : c = A := h; have := OLD.out; omega))
        have S4 := Lib.hid hs4
        clear hu4 hs4
        go_wp2
        go_roundw
        case rel => exact ⟨j + 1, by omega, by go_num, U4.out, by rw [vals_succ]; exact S4.out⟩
        case measure => simp [intOf]; omega
      · obtain rfl : j = n := by omega
        go_wp2_with fail
        refine (set_err S R A B F (j + q) j 1 0 none none false false err (vals s j) (fun _ => fr0) _ S3.out).mono ?_
        rintro e w4 ⟨rfl, hu4, hs4⟩
        have U4 := Lib.hid (U3.out.trans_new hu4 (fun c h => by have h : c = S := h; have := OLD.out; omega))
        have S4 := Lib.hid hs4
        clear hu4 hs4 U3 S3 hlt
        go_wp2_with fail
        refine (zz_raise S R A B F (j + q) j 1 0 none none err (vals s j) (fun _ => fr0) (fun _ => False) (fun uv _ => uv = none) fm _ (by omega) (by omega) (one_vals s j _) S4.out (fun he => close_none S R A B F (j + q) j 1 0 err (vals s j) (fun _ => fr0) _ he S4.out)).mono ?_
        rintro e w7 ⟨rfl, uv1, w6, hwhy, A', cap', hc', hcm, hA', hu7, hs7⟩
        have hu6 : Upd (fun _ => False) w4 w6 := by
          rcases hwhy with ⟨_, _, rfl⟩ | ⟨_, h, _⟩
          · exact Upd.refl _ _
          · exact h
        have hold := OLD.out
        have hz1 := U4.out.size
        have hz2 := hu6.size
        have hge : ∀ c, (c = S ∨ c = R ∨ c = A) → w1.heap.size ≤ c := fun c h => by omega
        have U7 := Lib.hid ((U4.out.trans hu6).trans_new hu7 hge)
        have H7 := Lib.hid (H1.out.upd U7.out (fun c h => h.elim))
        have T7 := Lib.hid (U1.out.trans U7.out)
        have hcap : cap' ≤ 131072 := by omega
        have S7 := Lib.hid hs7
        clear hwhy hu7 hs7 hu6 hold hz1 hz2 hge hA' U4 S4 U7 U1 H1
        go_wp2_with fail
        refine (zz_top S R A' B F cap' (j + 1) 1 0 none uv1 true err _ _ _ S7.out).mono ?_
        rintro e w' ⟨rfl, rfl⟩
        go_wp2_with fail
        go_loop [12] (fun i => ∃ z : Nat, z ≤ j ∧ i = .int .i64 z) (fun i => j - (intOf i).toNat)
        case atStart => exact ⟨0, Nat.zero_le _, rfl⟩
        case round =>
          obtain ⟨z, hz, rfl⟩ := hrel
          by_cases hzj : z < j
          · obtain ⟨b, off, rfl, hbl, hc⟩ := H7.out z hzj
            have i1 : (0 : Int) ≤ (z : Int) := by omega
            have i2 : (z : Int) < (j : Int) := by omega
            clear hbl
            go_wp2_with fail
            refine (zz_string S R A' B F cap' (j + 1) 1 0 z none uv1 true err _ _ (s z) _ (by omega) hcap (by show (if z = j then sv fm else vals s j z) = _; rw [if_neg (by omega)]; unfold vals; rw [if_pos hzj]) S7.out).mono ?_
            rintro e w' ⟨rfl, rfl⟩
            go_wp2
            go_round
            case rel => exact ⟨z + 1, by omega, by go_num⟩
            case measure => simp [intOf]; omega
          · obtain rfl : z = j := by omega
            have s4 := S7.out.st.at (o := 4) rfl
            go_wp2_with fail
            refine (zz_string S R A' B F cap' (z + 1) 1 0 z none uv1 true err _ _ fm _ (by omega) hcap (by show (if z = z then sv fm else vals s z z) = _; rw [if_pos rfl]) S7.out).mono ?_
            rintro e w' ⟨rfl, rfl⟩
            go_wp2
            go_ret
            exact ⟨rfl, T7.out.below (Nat.le_refl _) (fun _ h => h.elim)⟩

set_option maxHeartbeats 1600000 in
theorem push_long (aR : Option Addr) (n cR : Nat) (free : Int) (fm : ByteArray) (err : Bool) (s : Nat → ByteArray) (w : World) (h0 : n ≤ 9223372036854775807) (hn : ¬ n ≤ 4096) (hR : Cells w aR n fun j => .string (s j)) :
    Calls Tryz.prog 3 #[.slice aR n cR, .int .i64 free, .string fm, .bool err] w (Good w) := by
  have HR := Lib.hid hR
  clear hR
  go_enter Tryz.func3, Tryz.ntmps3
  go_wp2_with fail
  refine (guard_push aR n cR free fm err s _ h0 HR.out).mono ?_
  rintro e w' ⟨b, rfl, rfl, hs⟩
  clear hs
  cases b with
  | false =>
    go_wp2
    go_ret
    exact ⟨rfl, Below.refl _ _⟩
  | true =>
    go_wp2
    all_goals
      go_ret
      exact ⟨rfl, Below.refl _ _⟩
end Go.Proofs.YtkoiadebacdklaaGreatFmt
