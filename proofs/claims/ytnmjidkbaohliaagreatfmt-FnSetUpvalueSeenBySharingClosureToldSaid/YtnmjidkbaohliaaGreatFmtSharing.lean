/- FnSetUpvalueSeenBySharingClosure at slices of one length above 0, walked. -/
import Derived.Test.YtnmjidkbaohliaaGreatFmtNumb
namespace Go.Proofs.YtnmjidkbaohliaaGreatFmt
open Go.RowKit
set_option maxRecDepth 100000

/-- What stands when both closures are there; v: what the shared cells hold. -/
structure Shr (w wr : World) (N1 V1 U F1 P1 U2 N2 P2 F2 k : Nat) (s : Nat → ByteArray) (x v : Nat → Nat) : Prop where
  upd : Upd (fun _ => False) w wr
  names : Blk wr N1 (tab k fun j => Value.string (s j)) 9
  vals : Blk wr V1 (tab k fun j => Value.float .f64 (x j)) 25
  ups : Blk wr U (ptrs U k) 37
  box : ∀ j, j < k → Blk wr (U + 1 + j) (upv (.iface 96 (.float .f64 (v j))) true) 132
  p1 : ∃ c, Blk wr P1 (proto (some ⟨N1, 0, none⟩) k c) 51
  f1 : Blk wr F1 (fnc false (some ⟨P1, 0, none⟩) (some ⟨U, 0, none⟩) k k) 43
  ups2 : Blk wr U2 (ptrs U k) 37
  names2 : Blk wr N2 (tab k fun j => Value.string (s j)) 9
  p2 : ∃ c, Blk wr P2 (proto (some ⟨N2, 0, none⟩) k c) 51
  f2 : Blk wr F2 (fnc false (some ⟨P2, 0, none⟩) (some ⟨U2, 0, none⟩) k k) 43

theorem Shr.drewN {w wr : World} {N1 V1 U F1 P1 U2 N2 P2 F2 k : Nat} {s : Nat → ByteArray} {x v : Nat → Nat} (h : Shr w wr N1 V1 U F1 P1 U2 N2 P2 F2 k s x v) (n : Nat) : Shr w (wr.drewN n) N1 V1 U F1 P1 U2 N2 P2 F2 k s x v :=
  ⟨h.upd.drewN n, h.names, h.vals, h.ups, h.box, h.p1, h.f1, h.ups2, h.names2, h.p2, h.f2⟩

theorem Shr.step {w wr w' : World} {N1 V1 U F1 P1 U2 N2 P2 F2 k m y : Nat} {s : Nat → ByteArray} {x v : Nat → Nat} (h : Shr w wr N1 V1 U F1 P1 U2 N2 P2 F2 k s x v) (hm : m < k)
    (hu : Upd (fun c => c = U + 1 + m) wr w') (hb : Blk w' (U + 1 + m) (upv (.iface 96 (.float .f64 y)) true) 132)
    (h1 : N1 ≠ U + 1 + m) (h2 : V1 ≠ U + 1 + m) (h3 : P1 ≠ U + 1 + m) (h4 : F1 ≠ U + 1 + m) (h5 : U2 ≠ U + 1 + m) (h6 : N2 ≠ U + 1 + m) (h7 : P2 ≠ U + 1 + m) (h8 : F2 ≠ U + 1 + m) (h9 : w.heap.size ≤ U + 1 + m) :
    Shr w w' N1 V1 U F1 P1 U2 N2 P2 F2 k s x (fun q => if q = m then y else v q) := by
  obtain ⟨c1, hp1⟩ := h.p1
  obtain ⟨c2, hp2⟩ := h.p2
  refine ⟨⟨hu.os.trans h.upd.os, hu.tape.trans h.upd.tape, hu.output.trans h.upd.output, Nat.le_trans h.upd.size hu.size, fun i hi hs => (hu.block i (Nat.lt_of_lt_of_le hi h.upd.size) (by omega)).trans (h.upd.block i hi hs)⟩,
    hu.blk h.names h1, hu.blk h.vals h2, hu.blk h.ups (by omega), fun q hq => ?_, ⟨c1, hu.blk hp1 h3⟩, hu.blk h.f1 h4, hu.blk h.ups2 h5, hu.blk h.names2 h6, ⟨c2, hu.blk hp2 h7⟩, hu.blk h.f2 h8⟩
  by_cases e : q = m
  · subst e
    rw [if_pos rfl]
    exact hb
  · rw [if_neg e]
    exact hu.blk (h.box q hq) (by omega)

set_option maxHeartbeats 1600000 in
theorem sharing_pos (aN aV : Option Addr) (k cN cV : Nat) (s : Nat → ByteArray) (x : Nat → Nat) (no : Int) (y : Nat) (w : World) (hk : k ≤ 4096) (hk0 : 0 < k) (hn1 : -9223372036854775808 ≤ no) (hn2 : no ≤ 9223372036854775807)
    (hN : Cells w aN k fun j => .string (s j)) (hV : Cells w aV k fun j => .float .f64 (x j)) :
    Calls Tryz.prog 5 #[.slice aN k cN, .slice aV k cV, .int .i64 no, .float .f64 y] w (Good w) := by
  have HN := Lib.hid hN
  have HV := Lib.hid hV
  have d1 : decide ((4096 : Int) < (k : Int)) = false := decide_eq_false (by omega)
  clear hN hV
  go_enter Tryz.func5, Tryz.ntmps5
  go_wp2_with fail
  refine (zz15 aN aV k cN k cV s no y w (by omega) (by omega) HN.out).mono ?_
  rintro e w' ⟨b, rfl, rfl, hb⟩
  cases b with
  | false =>
    go_wp2
    go_ret
    exact ⟨rfl, Below.refl _ _⟩
  | true =>
    have HB := Lib.hid (hb rfl)
    clear hb
    go_wp2_with fail
    refine (fits16_eq aN aV k cN cV s w hk HN.out HB.out.2).mono ?_
    rintro e w' ⟨b, rfl, rfl⟩
    cases b with
    | false =>
      go_wp2
      go_ret
      exact ⟨rfl, Below.refl _ _⟩
    | true =>
      go_wp2_with fail
      refine (cloneStr aN k cN s _ (by omega) HN.out).mono ?_
      rintro e w1 ⟨a1, c1, rfl, hu1, h1⟩
      obtain ⟨rfl, hb1⟩ := h1 hk0
      have U1 := Lib.hid hu1
      have B1 := Lib.hid hb1
      clear hu1 hb1 h1
      go_wp2_with fail
      refine (cloneFlo aV k cV x _ (by omega) (HV.out.upd U1.out)).mono ?_
      rintro e w2 ⟨a2, c2, rfl, hu2, h2⟩
      obtain ⟨rfl, hb2⟩ := h2 hk0
      have U2 := Lib.hid (U1.out.trans hu2)
      have B2 := Lib.hid (⟨hu2.blk B1.out (fun h => h), hb2⟩ : Blk w2 w.heap.size (tab k fun j => Value.string (s j)) 9 ∧ Blk w2 w1.heap.size (tab k fun j => Value.float .f64 (x j)) 25)
      clear hu2 hb2 h2 U1 B1
      go_wp2_with fail
      refine (build_closure (some ⟨w.heap.size, 0, none⟩) (some ⟨w1.heap.size, 0, none⟩) k c1 c2 x false _ (by omega) (Cells.of_blk fun _ => ⟨rfl, B2.out.2⟩)).mono ?_
      rintro e w3 ⟨rfl, hc⟩
      have hm := mk36 k (by omega)
      obtain ⟨U, hU⟩ : ∃ U : Nat, w2.heap.size = U := ⟨_, rfl⟩
      rw [hU] at hc ⊢
      have C3 := Lib.hid hc
      have hN1 : w.heap.size < U := by rw [← hU]; exact B2.out.1.lt
      have hV1 : w1.heap.size < U := by rw [← hU]; exact B2.out.2.lt
      have hU2 := Lib.hid hc.size
      have U3 := Lib.hid (U2.out.trans hc.upd)
      have B3 := Lib.hid (⟨hc.upd.blk B2.out.1 (fun h => h), hc.upd.blk B2.out.2 (fun h => h)⟩ : Blk w3 w.heap.size (tab k fun j => Value.string (s j)) 9 ∧ Blk w3 w1.heap.size (tab k fun j => Value.float .f64 (x j)) 25)
      have f4 := hc.fn.at (o := 4) rfl
      clear hc hU U2 B2
      go_wp2_with fail
      go_loopw [12] (fun i wr => ∃ j : Nat, j ≤ k ∧ i = .int .i64 j ∧ Upd (fun _ => False) w3 wr ∧ Blk wr w3.heap.size (tab k fun m => .pointer (if m < j then some ⟨U + 1 + m, 0, none⟩ else none)) 37) (fun i _ => k - (intOf i).toNat)
      case atStart => exact ⟨0, Nat.zero_le _, rfl, (Upd.refl _ _).alloc _, Blk.new _ _ _⟩
      case round =>
        obtain ⟨j, hj, rfl, hu, hb⟩ := hrel
        have HU := Lib.hid hu
        have HB2 := Lib.hid hb
        clear hu hb f4
        by_cases hlt : j < k
        · have f4 := (HU.out.blk C3.out.fn (fun h => h)).at (o := 4) rfl
          have u := (HU.out.blk C3.out.ups (fun h => h)).at (tab_in hlt)
          have h2 : wr.cell? ⟨w3.heap.size, j, none⟩ = some (.pointer none) := HB2.out.at (by rw [tab_in hlt, if_neg (by omega)])
          have h3 := HB2.out.free j
          go_wp2
          go_roundw
          case rel =>
            refine ⟨j + 1, by omega, by go_num, HU.out.setCell _ _ (.inr (Nat.le_refl _)), ?_⟩
            have := HB2.out.set j (.pointer (some ⟨U + 1 + j, 0, none⟩))
            rw [tab_set] at this
            rw [tab_congr (g := fun m => if m = j then Value.pointer (some ⟨U + 1 + j, 0, none⟩) else .pointer (if m < j then some ⟨U + 1 + m, 0, none⟩ else none))]
            · exact this
            · intro m _
              by_cases e : m = j
              · subst e; rw [if_pos rfl, if_pos (by omega)]
              · rw [if_neg e]
                by_cases e2 : m < j
                · rw [if_pos e2, if_pos (by omega)]
                · rw [if_neg e2, if_neg (by omega)]
          case measure => simp [intOf]; omega
        · obtain rfl : j = k := by omega
          go_wp2_with fail
          refine (cloneStr (some ⟨w.heap.size, 0, none⟩) j c1 s _ (by omega) (Cells.of_blk fun _ => ⟨rfl, HU.out.blk B3.out.1 (fun h => h)⟩)).mono ?_
          rintro e w4 ⟨a4, c4, rfl, hu4, h4⟩
          obtain ⟨rfl, hb4⟩ := h4 hk0
          have hN := HB2.out
          rw [tab_congr (g := fun m => Value.pointer (some ⟨U + 1 + m, 0, none⟩)) (fun m hm => by rw [if_pos hm])] at hN
          have U4 := Lib.hid ((U3.out.trans HU.out).trans hu4)
          have hx := HU.out.trans hu4
          have B4 := Lib.hid (⟨hx.blk B3.out.1 (fun h => h), hx.blk B3.out.2 (fun h => h), hu4.blk hN (fun h => h), hb4⟩ : Blk w4 w.heap.size (tab j fun m => Value.string (s m)) 9 ∧ Blk w4 w1.heap.size (tab j fun m => Value.float .f64 (x m)) 25 ∧ Blk w4 w3.heap.size (ptrs U j) 37 ∧ Blk w4 wr.heap.size (tab j fun m => Value.string (s m)) 9)
          have C4 := Lib.hid (⟨hx.blk C3.out.ups (fun h => h), fun m hm => hx.blk (C3.out.box m hm) (fun h => h), hx.blk C3.out.pro (fun h => h), hx.blk C3.out.fn (fun h => h)⟩ : Blk w4 U (ptrs U j) 37 ∧ (∀ m, m < j → Blk w4 (U + 1 + m) (upv (.iface 96 (.float .f64 (x m))) true) 132) ∧ Blk w4 (U + 1 + j) (proto (some ⟨w.heap.size, 0, none⟩) j c1) 51 ∧ Blk w4 (U + 2 + j) (fnc false (some ⟨U + 1 + j, 0, none⟩) (some ⟨U, 0, none⟩) j j) 43)
          have hN2 := HB2.out.lt
          have hP2 := hb4.lt
          clear hu4 hb4 h4 hN hx B3 U3 HU HB2 C3
          go_wp2_with fail
          refine (bare20 _).mono ?_
          rintro e w5 ⟨rfl, hu⟩
          have hu5 := (((Upd.refl (fun _ => False) w4).alloc (.cells (proto (some ⟨wr.heap.size, 0, none⟩) j c4).toArray 51)).alloc (.cells (fnc false (some ⟨w4.heap.size, 0, none⟩) (some ⟨w3.heap.size, 0, none⟩) j j).toArray 43)).trans hu
          have hP := hu.blk ((Blk.new w4 (proto (some ⟨wr.heap.size, 0, none⟩) j c4) 51).alloc (.cells (fnc false (some ⟨w4.heap.size, 0, none⟩) (some ⟨w3.heap.size, 0, none⟩) j j).toArray 43)) (fun h => h)
          have hF := hu.blk (Blk.new_at (w := w4.alloc (.cells (proto (some ⟨wr.heap.size, 0, none⟩) j c4).toArray 51)) (b := w4.heap.size + 1) (by rw [World.size_alloc]) (fnc false (some ⟨w4.heap.size, 0, none⟩) (some ⟨w3.heap.size, 0, none⟩) j j) 43) (fun h => h)
          have S5 : Hid (Shr w w5 w.heap.size w1.heap.size U (U + 2 + j) (U + 1 + j) w3.heap.size wr.heap.size w4.heap.size (w4.heap.size + 1) j s x x) := Lib.hid ⟨U4.out.trans hu5, hu5.blk B4.out.1 (fun h => h), hu5.blk B4.out.2.1 (fun h => h), hu5.blk C4.out.1 (fun h => h), fun m hm => hu5.blk (C4.out.2.1 m hm) (fun h => h), ⟨c1, hu5.blk C4.out.2.2.1 (fun h => h)⟩, hu5.blk C4.out.2.2.2 (fun h => h), hu5.blk B4.out.2.2.1 (fun h => h), hu5.blk B4.out.2.2.2 (fun h => h), ⟨c4, hP⟩, hF⟩
          clear hP hF hu hu5 U4 B4 C4
          go_wp2_with fail
          refine (number22 y _).mono ?_
          rintro e w' ⟨rfl, rfl⟩
          go_wp2_with fail
          by_cases hin : 1 ≤ no ∧ no ≤ (j : Int)
          · obtain ⟨m, rfl⟩ : ∃ m : Nat, no = (m : Int) + 1 := ⟨(no - 1).toNat, by omega⟩
            have hm : m < j := by omega
            clear hn1 hn2
            have hz := hU2.out
            obtain ⟨cp, hp⟩ := S5.out.p1
            refine (set_upvalue_in (U + 2 + j) (U + 1 + j) U j j cp w.heap.size _ (fun q => U + 1 + q) s m _ true 96 (.float .f64 y) _ (by omega) hm S5.out.f1 S5.out.ups (S5.out.box m hm) hp S5.out.names (by refine ⟨?_, ?_, ?_⟩ <;> omega)).mono ?_
            rintro e w6 ⟨rfl, hu, hb⟩
            have S6 := Lib.hid (S5.out.step hm hu hb (by omega) (by omega) (by omega) (by omega) (by omega) (by omega) (by omega) (by omega) (by omega))
            clear hu hb hp S5 hz
            have hn := S6.out.names.at (tab_in hm)
            go_wp2_with fail
            go_loopw [18] (fun i wq => ∃ q : Nat, q ≤ j ∧ i = .int .i64 ((q : Int) + 1) ∧ Shr w wq w.heap.size w1.heap.size U (U + 2 + j) (U + 1 + j) w3.heap.size wr.heap.size w4.heap.size (w4.heap.size + 1) j s x (fun q => if q = m then y else x q)) (fun i _ => j + 1 - (intOf i).toNat)
            case atStart => exact ⟨0, Nat.zero_le _, rfl, S6.out⟩
            case round =>
              obtain ⟨q, hq, rfl, hS⟩ := hrel
              have S7 := Lib.hid hS
              clear hS S6 hn
              by_cases hlt : q < j
              · obtain ⟨cq, hpq⟩ := S7.out.p2
                have hle : (q : Int) + 1 ≤ (j : Int) := by omega
                go_wp2_with fail
                refine (get_upvalue_in (w4.heap.size + 1) w4.heap.size w3.heap.size j j cq _ _ (fun q => U + 1 + q) s q _ true _ (by omega) hlt S7.out.f2 S7.out.ups2 (S7.out.box q hlt) hpq S7.out.names2).mono ?_
                rintro e w' ⟨rfl, n2, rfl⟩
                have S8 := Lib.hid (S7.out.drewN n2)
                clear hpq S7
                generalize World.drewN _ n2 = w8 at *
                have hv := S8.out.vals.at (tab_in hlt)
                have hs := S8.out.names.at (tab_in hlt)
                by_cases e : q = m
                · subst e
                  rw [if_pos rfl]
                  go_wp2_with fail
                  refine (number24 _ _).mono ?_
                  rintro e w' ⟨rfl, rfl⟩
                  go_wp2_with fail
                  refine (same25 _ _).mono ?_
                  rintro e w' ⟨rfl, rfl⟩
                  go_wp2
                  go_roundw
                  case rel => exact ⟨q + 1, by omega, by go_num, S8.out⟩
                  case measure => simp [intOf]; omega
                · rw [if_neg e]
                  go_wp2_with fail
                  refine (number24 _ _).mono ?_
                  rintro e w' ⟨rfl, rfl⟩
                  go_wp2_with fail
                  refine (same25 _ _).mono ?_
                  rintro e w' ⟨rfl, rfl⟩
                  go_wp2
                  go_roundw
                  case rel => exact ⟨q + 1, by omega, by go_num, S8.out⟩
                  case measure => simp [intOf]; omega
              · obtain rfl : q = j := by omega
                go_wp2
                go_ret
                exact ⟨rfl, S7.out.upd.below (Nat.le_refl _) (fun k h => h.elim)⟩
          · have hout : no < 1 ∨ (j : Int) < no := by omega
            refine (set_upvalue_out (U + 2 + j) j j _ _ _ no 96 (.float .f64 y) _ hn1 hout (by omega) hn2 S5.out.f1).mono ?_
            rintro e w6 ⟨rfl, rfl⟩
            have hout : no < 1 ∨ decide (no ≤ (j : Int)) = false ∧ 1 ≤ no := by
              rcases hout with h | h
              · exact .inl h
              · exact .inr ⟨decide_eq_false (by omega), by omega⟩
            clear hn1 hn2 hin
            rcases hout with hout | ⟨hd, hout⟩
            all_goals
              go_wp2_with fail
              go_loopw [18] (fun i wq => ∃ q : Nat, q ≤ j ∧ i = .int .i64 ((q : Int) + 1) ∧ Shr w wq w.heap.size w1.heap.size U (U + 2 + j) (U + 1 + j) w3.heap.size wr.heap.size w4.heap.size (w4.heap.size + 1) j s x x) (fun i _ => j + 1 - (intOf i).toNat)
              case atStart => exact ⟨0, Nat.zero_le _, rfl, S5.out⟩
              case round =>
                obtain ⟨q, hq, rfl, hS⟩ := hrel
                have S7 := Lib.hid hS
                clear hS S5 hout
                by_cases hlt : q < j
                · obtain ⟨cq, hpq⟩ := S7.out.p2
                  have hle : (q : Int) + 1 ≤ (j : Int) := by omega
                  go_wp2_with fail
                  refine (get_upvalue_in (w4.heap.size + 1) w4.heap.size w3.heap.size j j cq _ _ (fun q => U + 1 + q) s q _ true _ (by omega) hlt S7.out.f2 S7.out.ups2 (S7.out.box q hlt) hpq S7.out.names2).mono ?_
                  rintro e w' ⟨rfl, n2, rfl⟩
                  have S8 := Lib.hid (S7.out.drewN n2)
                  clear hpq S7
                  generalize World.drewN _ n2 = w8 at *
                  have hv := S8.out.vals.at (tab_in hlt)
                  have hs := S8.out.names.at (tab_in hlt)
                  go_wp2_with fail
                  refine (number24 _ _).mono ?_
                  rintro e w' ⟨rfl, rfl⟩
                  go_wp2_with fail
                  refine (same25 _ _).mono ?_
                  rintro e w' ⟨rfl, rfl⟩
                  go_wp2
                  go_roundw
                  case rel => exact ⟨q + 1, by omega, by go_num, S8.out⟩
                  case measure => simp [intOf]; omega
                · obtain rfl : q = j := by omega
                  go_wp2
                  go_ret
                  exact ⟨rfl, S7.out.upd.below (Nat.le_refl _) (fun k h => h.elim)⟩
end Go.Proofs.YtnmjidkbaohliaaGreatFmt
