/- FnSetUpvalueSeenBySharingClosure at empty slices and at lengths that its guards turn away, walked. -/
import Derived.Test.YtnmjidkbaohliaaGreatFmtSharing
namespace Go.Proofs.YtnmjidkbaohliaaGreatFmt
open Go.RowKit
set_option maxRecDepth 100000

set_option maxHeartbeats 1600000 in
theorem sharing_zero (aN aV : Option Addr) (cN cV : Nat) (no : Int) (y : Nat) (w : World) (hn1 : -9223372036854775808 ≤ no) (hn2 : no ≤ 9223372036854775807) :
    Calls Tryz.prog 5 #[.slice aN 0 cN, .slice aV 0 cV, .int .i64 no, .float .f64 y] w (Good w) := by
  have hN0 : ∀ (w : World) (a : Option Addr), Cells w a 0 fun j => .string ((fun _ => ByteArray.empty : Nat → ByteArray) j) := fun w a j hj => absurd hj (by omega)
  have hV0 : ∀ (w : World) (a : Option Addr), Cells w a 0 fun j => .float .f64 ((fun _ => 0 : Nat → Nat) j) := fun w a j hj => absurd hj (by omega)
  have HN := Lib.hid hN0
  have HV := Lib.hid hV0
  clear hN0 hV0
  go_enter Tryz.func5, Tryz.ntmps5
  go_wp2_with fail
  refine (zz15 aN aV 0 cN 0 cV _ no y w (by omega) (by omega) (HN.out _ _)).mono ?_
  rintro e w' ⟨b, rfl, rfl, hb⟩
  cases b with
  | false =>
    go_wp2
    go_ret
    exact ⟨rfl, Below.refl _ _⟩
  | true =>
    clear hb
    go_wp2_with fail
    refine (fits16_eq aN aV 0 cN cV _ w (by omega) (HN.out _ _) (fun j hj => absurd hj (by omega))).mono ?_
    rintro e w' ⟨b, rfl, rfl⟩
    cases b with
    | false =>
      go_wp2
      go_ret
      exact ⟨rfl, Below.refl _ _⟩
    | true =>
      go_wp2_with fail
      refine (cloneStr aN 0 cN _ _ (by omega) (HN.out _ _)).mono ?_
      rintro e w1 ⟨a1, c1, rfl, hu1, _⟩
      have U1 := Lib.hid hu1
      clear hu1
      go_wp2_with fail
      refine (cloneFlo aV 0 cV _ _ (by omega) (HV.out _ _)).mono ?_
      rintro e w2 ⟨a2, c2, rfl, hu2, _⟩
      have U2 := Lib.hid (U1.out.trans hu2)
      clear hu2 U1
      go_wp2_with fail
      refine (build_closure a1 a2 0 c1 c2 _ false _ (by omega) (HV.out _ _)).mono ?_
      rintro e w3 ⟨rfl, hc⟩
      have hm : ∀ w : World, (Instr.makeSlice 36 (.int .i64 0) (.int .i64 0)).run Tryz.prog w = .ok (.slice (some ⟨w.heap.size, 0, none⟩) 0 0) (w.alloc (.cells (tab 0 fun _ => Value.pointer none).toArray 37)) := mk36 0 (by omega)
      have C3 := Lib.hid hc.fn
      have U3 := Lib.hid (U2.out.trans hc.upd)
      clear hc U2
      go_wp2_with fail
      go_loopw [12] (fun i wr => i = .int .i64 0 ∧ Upd (fun _ => False) w3 wr) (fun i _ => 0)
      case atStart => exact ⟨rfl, (Upd.refl _ _).alloc _⟩
      case round =>
        obtain ⟨rfl, hu⟩ := hrel
        have U4 := Lib.hid (U3.out.trans hu)
        have C4 := Lib.hid (hu.blk C3.out (fun h => h))
        clear hu U3 C3
        go_wp2_with fail
        refine (cloneStr a1 0 c1 _ _ (by omega) (HN.out _ _)).mono ?_
        rintro e w4 ⟨a4, c4, rfl, hu4, _⟩
        have U5 := Lib.hid (U4.out.trans hu4)
        have C5 := Lib.hid (hu4.blk C4.out (fun h => h))
        clear hu4 U4 C4
        go_wp2_with fail
        refine (bare20 _).mono ?_
        rintro e w5 ⟨rfl, hu5⟩
        have hx := (((Upd.refl (fun _ => False) w4).alloc (.cells (proto a4 0 c4).toArray 51)).alloc (.cells (fnc false (some ⟨w4.heap.size, 0, none⟩) (some ⟨w3.heap.size, 0, none⟩) 0 0).toArray 43)).trans hu5
        have U6 := Lib.hid (U5.out.trans hx)
        have C6 := Lib.hid (hx.blk C5.out (fun h => h))
        clear hu5 hx U5 C5
        go_wp2_with fail
        refine (number22 y _).mono ?_
        rintro e w' ⟨rfl, rfl⟩
        go_wp2_with fail
        refine (set_upvalue_out _ 0 0 _ _ _ no 96 (.float .f64 y) _ hn1 (by omega) (by omega) hn2 C6.out).mono ?_
        rintro e w6 ⟨rfl, rfl⟩
        clear hn1 hn2
        by_cases hout : no < 1
        all_goals
          go_wp2_with fail
          go_loopw [18] (fun i wq => i = .int .i64 1 ∧ Upd (fun _ => False) w wq) (fun i _ => 0)
          case atStart => exact ⟨rfl, U6.out⟩
          case round =>
            obtain ⟨rfl, hu⟩ := hrel
            have U7 := Lib.hid hu
            clear hu
            go_wp2
            go_ret
            exact ⟨rfl, U7.out.below (Nat.le_refl _) (fun k h => h.elim)⟩

set_option maxHeartbeats 1600000 in
theorem sharing_out (aN aV : Option Addr) (k n cN cV : Nat) (s : Nat → ByteArray) (no : Int) (y : Nat) (w : World) (hkm : k ≤ 9223372036854775807) (hnm : n ≤ 9223372036854775807)
    (hN : Cells w aN k fun j => .string (s j)) (ho : ¬ (k ≤ 4096 ∧ n = k)) :
    Calls Tryz.prog 5 #[.slice aN k cN, .slice aV n cV, .int .i64 no, .float .f64 y] w (Good w) := by
  have HN := Lib.hid hN
  have hz := zz15 aN aV k cN n cV s no y w hkm hnm hN
  clear hN hkm hnm
  by_cases h1 : k ≤ 4096
  · have d1 : decide ((4096 : Int) < (k : Int)) = false := decide_eq_false (by omega)
    by_cases h2 : n ≤ 4096
    · have d2 : decide ((4096 : Int) < (n : Int)) = false := decide_eq_false (by omega)
      go_enter Tryz.func5, Tryz.ntmps5
      go_wp2_with fail
      refine hz.mono ?_
      rintro e w' ⟨b, rfl, rfl, hb⟩
      cases b with
      | false =>
        go_wp2
        go_ret
        exact ⟨rfl, Below.refl _ _⟩
      | true =>
        clear hb
        go_wp2_with fail
        refine (fits16_ne aN aV k cN n cV w (by omega)).mono ?_
        rintro e w' ⟨rfl, rfl⟩
        go_wp2
        go_ret
        exact ⟨rfl, Below.refl _ _⟩
    · have d2 : decide ((4096 : Int) < (n : Int)) = true := decide_eq_true (by omega)
      clear h2
      go_enter Tryz.func5, Tryz.ntmps5
      go_wp2_with fail
      refine hz.mono ?_
      rintro e w' ⟨b, rfl, rfl, hb⟩
      cases b with
      | false =>
        go_wp2
        go_ret
        exact ⟨rfl, Below.refl _ _⟩
      | true =>
        go_wp2
        go_ret
        exact ⟨rfl, Below.refl _ _⟩
  · have d1 : decide ((4096 : Int) < (k : Int)) = true := decide_eq_true (by omega)
    clear h1 ho
    go_enter Tryz.func5, Tryz.ntmps5
    go_wp2_with fail
    refine hz.mono ?_
    rintro e w' ⟨b, rfl, rfl, hb⟩
    cases b with
    | false =>
      go_wp2
      go_ret
      exact ⟨rfl, Below.refl _ _⟩
    | true =>
      go_wp2
      go_ret
      exact ⟨rfl, Below.refl _ _⟩
end Go.Proofs.YtnmjidkbaohliaaGreatFmt
