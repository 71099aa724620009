/- FnSetUpvalueExactCaseTable, walked. -/
import Derived.Test.YtejhfhcndpehiaaGreatFmtUp3
import Derived.IntWalk
namespace Go.Proofs.YtejhfhcndpehiaaGreatFmt
open Go.RowKit
set_option maxRecDepth 100000

/-- The closure and the two slices of arguments as they stand; x: what the cells hold. -/
structure Ups (w wq : World) (D n : Nat) (s x t : Nat → ByteArray) (a1 a2 : Option Addr) : Prop where
  clo : Clo w wq D n s x
  nam : Held wq D a1 n fun j => .string (s j)
  val : Held wq D a2 n fun j => .string (t j)

theorem Clo.next {w w1 w2 : World} {D n : Nat} {s x : Nat → ByteArray} (h : Clo w w1 D n s x) (hu : Upd (fun _ => False) w1 w2) : Clo w w2 D n s x :=
  ⟨h.upd.trans hu, h.old, hu.blk h.dbg (fun h => h), hu.blk h.ups (fun h => h), fun j hj => hu.blk (h.box j hj) (fun h => h), hu.blk h.pro (fun h => h), hu.blk h.fn (fun h => h)⟩
theorem Ups.next {w w1 w2 : World} {D n : Nat} {s x t : Nat → ByteArray} {a1 a2 : Option Addr} (h : Ups w w1 D n s x t a1 a2) (hu : Upd (fun _ => False) w1 w2) : Ups w w2 D n s x t a1 a2 :=
  ⟨h.clo.next hu, h.nam.upd hu (fun _ h => h.elim), h.val.upd hu (fun _ h => h.elim)⟩
theorem Ups.set {w w1 w2 : World} {D n m : Nat} {s x t : Nat → ByteArray} {a1 a2 : Option Addr} {v : ByteArray} (h : Ups w w1 D n s x t a1 a2) (hm : m < n)
    (hu : Upd (fun c => c = D + 2 + m) w1 w2) (hb : Blk w2 (D + 2 + m) (upv (sv v) false) 104) : Ups w w2 D n s (fun q => if q = m then v else x q) t a1 a2 := by
  have od := h.clo.old
  refine ⟨⟨h.clo.upd.trans_new hu (fun c e => by have e : c = _ := e; omega), od, hu.blk h.clo.dbg (by omega), hu.blk h.clo.ups (by omega), fun j hj => ?_, hu.blk h.clo.pro (by omega), hu.blk h.clo.fn (by omega)⟩, h.nam.upd hu (fun c e => by have e : c = _ := e; omega), h.val.upd hu (fun c e => by have e : c = _ := e; omega)⟩
  by_cases e : j = m
  · subst e
    rw [if_pos rfl]
    exact hb
  · rw [if_neg e]
    exact hu.blk (h.clo.box j hj) (by omega)

set_option maxHeartbeats 800000 in
theorem get_upvalue_out (F k cU : Nat) (P g u : Option Addr) (no : Int) (w : World) (h1 : -9223372036854775808 ≤ no) (hno : no < 1 ∨ (k : Int) < no) (hk : k ≤ 1048576) (hn : no ≤ 9223372036854775807)
    (hF : Blk w F (fnc false P u k cU) 81) :
    Calls Tryz.prog 38 #[.pointer g, .pointer (some ⟨F, 0, none⟩), .int .i64 no] w fun e w' => e = .returned (.tuple #[.string ByteArray.empty, nilw]) ∧ w' = w := by
  have f0 := hF.at (o := 0) rfl
  have f4 := hF.at (o := 4) rfl
  clear hF
  by_cases h0 : no = -9223372036854775808
  · subst h0
    clear h1 hn hno
    go_enter Tryz.func38, Tryz.ntmps38
    go_wp2
    all_goals (first | (go_ret2; exact ⟨rfl, rfl⟩) | (exfalso; have e := wrap_least; omega))
  · rcases hno with hno | hno
    all_goals
      go_enter Tryz.func38, Tryz.ntmps38
      go_wp2
      go_ret2
      exact ⟨rfl, rfl⟩

set_option maxHeartbeats 400000 in
theorem get_upvalue_g (F k cU : Nat) (P g u : Option Addr) (no : Int) (w : World) (hF : Blk w F (fnc true P u k cU) 81) :
    Calls Tryz.prog 38 #[.pointer g, .pointer (some ⟨F, 0, none⟩), .int .i64 no] w fun e w' => e = .returned (.tuple #[.string ByteArray.empty, nilw]) ∧ w' = w := by
  have f0 := hF.at (o := 0) rfl
  clear hF
  go_enter Tryz.func38, Tryz.ntmps38
  go_wp2
  go_ret2
  exact ⟨rfl, rfl⟩

set_option maxHeartbeats 400000 in
theorem set_upvalue_g (F k cU : Nat) (P g u : Option Addr) (no : Int) (t : TypeId) (x : Value) (w : World) (hF : Blk w F (fnc true P u k cU) 81) :
    Calls Tryz.prog 35 #[.pointer g, .pointer (some ⟨F, 0, none⟩), .int .i64 no, .iface t x] w fun e w' => e = .returned (.string ByteArray.empty) ∧ w' = w := by
  have f0 := hF.at (o := 0) rfl
  clear hF
  go_enter Tryz.func35, Tryz.ntmps35
  go_wp2
  go_ret
  exact ⟨rfl, rfl⟩

set_option maxHeartbeats 3200000 in
theorem exact_in (aN aV : Option Addr) (k cN p cV : Nat) (s t : Nat → ByteArray) (m : Nat) (v : ByteArray) (w : World) (hk : k ≤ 65536) (hp : p ≤ 65536) (hm : m < min k p)
    (hN : Cells w aN k fun j => .string (s j)) (hV : Cells w aV p fun j => .string (t j)) :
    Calls Tryz.prog 11 #[.slice aN k cN, .slice aV p cV, .int .i64 ((m : Int) + 1), .string v] w (Good w) := by
  have HN := Lib.hid hN
  have HV := Lib.hid hV
  have hmin := min_int k p
  obtain ⟨n, hn⟩ : ∃ n, min k p = n := ⟨_, rfl⟩
  have hn1 : n ≤ k := by omega
  have hn2 : n ≤ p := by omega
  rw [hn] at hmin
  have HMIN := Lib.hid hmin
  have d1 : decide ((65536 : Int) < (k : Int)) = false := decide_eq_false (by omega)
  have d2 : decide ((65536 : Int) < (p : Int)) = false := decide_eq_false (by omega)
  clear hN hV hmin
  go_enter Tryz.func11, Tryz.ntmps11
  go_wp2_with fail
  refine (zzExact aN aV k cN p cV s t ((m : Int) + 1) v _ (by omega) (by omega) HN.out HV.out).mono ?_
  rintro e w' ⟨b, rfl, rfl, hb⟩
  cases b with
  | false =>
    go_wp2
    go_ret
    exact ⟨rfl, Below.refl _ _⟩
  | true =>
    obtain ⟨hs, ht, hv⟩ := hb rfl
    have HS := Lib.hid hs
    have HT := Lib.hid ht
    have d3 : decide ((1048576 : Int) < (v.size : Int)) = false := decide_eq_false (by omega)
    clear hb hs ht
    go_wp2_with fail
    refine (strs_bytes aN k cN s _ (by omega) HN.out HS.out).mono ?_
    rintro e w' ⟨z1, hz1, rfl, rfl⟩
    go_wp2_with fail
    refine (strs_bytes aV p cV t _ (by omega) HV.out HT.out).mono ?_
    rintro e w' ⟨z2, hz2, rfl, rfl⟩
    by_cases hbig : z1 + z2 + v.size ≤ 1048576
    case neg =>
      have d4 : decide ((1048576 : Int) < (z1 : Int) + (z2 : Int) + (v.size : Int)) = true := decide_eq_true (by omega)
      go_wp2
      go_ret
      exact ⟨rfl, Below.refl _ _⟩
    have d4 : decide ((1048576 : Int) < (z1 : Int) + (z2 : Int) + (v.size : Int)) = false := decide_eq_false (by omega)
    go_wp2_with fail
    refine (cloneStr aN k cN s _ (by omega) HN.out).mono ?_
    rintro e w1 ⟨a1, c1, rfl, hu1, h1⟩
    have U1 := Lib.hid hu1
    have H1 := Lib.hid (Held.of_new h1)
    clear hu1 h1
    go_wp2_with fail
    refine (cloneStr aV p cV t _ (by omega) (HV.out.upd U1.out)).mono ?_
    rintro e w2 ⟨a2, c2, rfl, hu2, h2⟩
    have U2 := Lib.hid (U1.out.trans hu2)
    have H3 := Lib.hid (((H1.out.upd hu2 (fun c h => h.elim)).mono hu2.size).less hn1)
    have H2 := Lib.hid ((Held.of_new h2).less hn2)
    clear hu2 h2 H1 U1
    go_wp2_with fail
    refine (HMIN.out _).mono ?_
    rintro e w' ⟨rfl, rfl⟩
    clear d1 d2 d3 d4 hbig hz1 hz2 HS HT HN HV HMIN
    go_wp2_with fail
    refine (build_closure a1 a2 k c1 p c2 n s t _ (by omega) hn1 hn2 H3.out H2.out).mono ?_
    rintro e w3 ⟨rfl, hc⟩
    have U3 := Lib.hid (U2.out.trans hc.upd)
    obtain ⟨D, hD⟩ : ∃ D, w2.heap.size = D := ⟨_, rfl⟩
    have hS : Ups w2 w3 w2.heap.size n s t t a1 a2 := ⟨hc, H3.out.upd hc.upd (fun c h => h.elim), H2.out.upd hc.upd (fun c h => h.elim)⟩
    rw [hD] at hS ⊢
    have S3 := Lib.hid hS
    clear hS hD hc H2 H3
    have hmn : m < n := by omega
    go_wp2_with fail
    have hS4 := S3.out.next ((Upd.refl _ _).alloc (.cells #[.pointer none, .pointer none, .pointer none, .nilFunc, .bool false, .int .i64 0, .int .i64 0, .int .i64 0, .int .i64 0, .bool false, .bool false, .bool false, .int .i32 0, .pointer none, .nilIface, .pointer none, .pointer none, .bool false, .pointer none, .bool false, .nilFunc] 63))
    have S4 := Lib.hid hS4
    clear hS4
    refine (set_upvalue_in (D + 3 + n) (D + 2 + n) (D + 1) n n n D _ (fun q => D + 2 + q) s m (sv (t m)) false 74 (.string v) _ (by omega) hmn (by exact S4.out.clo.fn) (by exact S4.out.clo.ups) (by exact S4.out.clo.box m hmn) (by exact S4.out.clo.pro) (by exact S4.out.clo.dbg) (by refine ⟨?_, ?_, ?_⟩ <;> omega)).mono ?_
    rintro e w5 ⟨rfl, hu, hb⟩
    have S5 := Lib.hid (S4.out.set hmn hu hb)
    clear hu hb S4 S3
    have c0 := S5.out.nam.cells
    obtain ⟨b, off, ha1, hbl, cn⟩ := S5.out.nam m hmn
    subst ha1
    have hw1 : IntKind.i64.wrap ((m : Int) + 1 - 1) = (m : Int) := by rw [IntWalk.i64_in _ (by omega)]; omega
    have i1 : (1 : Int) ≤ (m : Int) + 1 := by omega
    have i2 : (m : Int) + 1 ≤ (n : Int) := by omega
    have i3 : (m : Int) < (k : Int) := by omega
    clear c0
    go_wp2_with fail
    clear cn
    go_loopw [14] (fun i wq => ∃ q : Nat, q ≤ n ∧ i = .int .i64 q ∧ Ups w2 wq D n s (fun j => if j = m then v else t j) t (some ⟨b, off, none⟩) a2) (fun i _ => n - (intOf i).toNat)
    case atStart => exact ⟨0, Nat.zero_le _, rfl, S5.out⟩
    case round =>
      obtain ⟨q, hq, rfl, hS⟩ := hrel
      have S6 := Lib.hid hS
      clear hS S5
      by_cases hlt : q < n
      · obtain ⟨b2, off2, ha2, hb2, cv⟩ := S6.out.val q hlt
        subst ha2
        have f4 := S6.out.clo.fn.at (o := 4) rfl
        have u := S6.out.clo.ups.at (tab_in hlt)
        have i4 : (0 : Int) ≤ (q : Int) := by omega
        have i5 : (q : Int) < (p : Int) := by omega
        have i6 : (q : Int) < (n : Int) := by omega
        by_cases e : q = m
        · subst e
          have b0 : ((q : Int) == (q : Int)) = true := by simp
          go_wp2_with fail
          refine (uv_value (D + 2 + q) _ false _ (by exact S6.out.clo.box q hlt)).mono ?_
          rintro e w' ⟨rfl, rfl⟩
          rw [if_pos rfl]
          go_wp2_with fail
          refine (reads_string v _).mono ?_
          rintro e w' ⟨rfl, rfl⟩
          go_wp2
          go_roundw
          case rel => exact ⟨q + 1, by omega, by go_num, S6.out⟩
          case measure => simp [intOf]; omega
        · have b0 : ((q : Int) == (m : Int)) = false := by simp; omega
          go_wp2_with fail
          refine (uv_value (D + 2 + q) _ false _ (by exact S6.out.clo.box q hlt)).mono ?_
          rintro e w' ⟨rfl, rfl⟩
          rw [if_neg e]
          go_wp2_with fail
          refine (reads_string (t q) _).mono ?_
          rintro e w' ⟨rfl, rfl⟩
          go_wp2
          go_roundw
          case rel => exact ⟨q + 1, by omega, by go_num, S6.out⟩
          case measure => simp [intOf]; omega
      · obtain rfl : q = n := by omega
        go_wp2_with fail
        refine (get_upvalue_in (D + 3 + q) (D + 2 + q) (D + 1) q q q D _ (fun j => D + 2 + j) s m _ false _ (by omega) hmn (by exact S6.out.clo.fn) (by exact S6.out.clo.ups) (by exact S6.out.clo.box m hmn) (by exact S6.out.clo.pro) (by exact S6.out.clo.dbg)).mono ?_
        rintro e w' ⟨rfl, n2, rfl⟩
        rw [if_pos rfl]
        have S7 := Lib.hid (S6.out.next ((Upd.refl _ _).drewN n2))
        clear S6
        generalize World.drewN _ n2 = w8 at *
        obtain ⟨b3, off3, ha3, hb3, cn⟩ := S7.out.nam m hmn
        cases ha3
        go_wp2_with fail
        refine (reads_string v _).mono ?_
        rintro e w' ⟨rfl, rfl⟩
        go_wp2
        go_ret
        exact ⟨rfl, (U2.out.trans S7.out.clo.upd).below (Nat.le_refl _) (fun k h => h.elim)⟩

set_option maxHeartbeats 3200000 in
theorem exact_out (aN aV : Option Addr) (k cN p cV : Nat) (s t : Nat → ByteArray) (no : Int) (v : ByteArray) (w : World) (hk : k ≤ 65536) (hp : p ≤ 65536) (hn3 : -9223372036854775808 ≤ no) (hn4 : no ≤ 9223372036854775807) (hno : no < 1 ∨ ((min k p : Nat) : Int) < no)
    (hN : Cells w aN k fun j => .string (s j)) (hV : Cells w aV p fun j => .string (t j)) :
    Calls Tryz.prog 11 #[.slice aN k cN, .slice aV p cV, .int .i64 no, .string v] w (Good w) := by
  have HN := Lib.hid hN
  have HV := Lib.hid hV
  have hmin := min_int k p
  obtain ⟨n, hn⟩ : ∃ n, min k p = n := ⟨_, rfl⟩
  have hn1 : n ≤ k := by omega
  have hn2 : n ≤ p := by omega
  rw [hn] at hmin
  have HMIN := Lib.hid hmin
  have d1 : decide ((65536 : Int) < (k : Int)) = false := decide_eq_false (by omega)
  have d2 : decide ((65536 : Int) < (p : Int)) = false := decide_eq_false (by omega)
  clear hN hV hmin
  go_enter Tryz.func11, Tryz.ntmps11
  go_wp2_with fail
  refine (zzExact aN aV k cN p cV s t no v _ (by omega) (by omega) HN.out HV.out).mono ?_
  rintro e w' ⟨b, rfl, rfl, hb⟩
  cases b with
  | false =>
    go_wp2
    go_ret
    exact ⟨rfl, Below.refl _ _⟩
  | true =>
    obtain ⟨hs, ht, hv⟩ := hb rfl
    have HS := Lib.hid hs
    have HT := Lib.hid ht
    have d3 : decide ((1048576 : Int) < (v.size : Int)) = false := decide_eq_false (by omega)
    clear hb hs ht
    go_wp2_with fail
    refine (strs_bytes aN k cN s _ (by omega) HN.out HS.out).mono ?_
    rintro e w' ⟨z1, hz1, rfl, rfl⟩
    go_wp2_with fail
    refine (strs_bytes aV p cV t _ (by omega) HV.out HT.out).mono ?_
    rintro e w' ⟨z2, hz2, rfl, rfl⟩
    by_cases hbig : z1 + z2 + v.size ≤ 1048576
    case neg =>
      have d4 : decide ((1048576 : Int) < (z1 : Int) + (z2 : Int) + (v.size : Int)) = true := decide_eq_true (by omega)
      go_wp2
      go_ret
      exact ⟨rfl, Below.refl _ _⟩
    have d4 : decide ((1048576 : Int) < (z1 : Int) + (z2 : Int) + (v.size : Int)) = false := decide_eq_false (by omega)
    go_wp2_with fail
    refine (cloneStr aN k cN s _ (by omega) HN.out).mono ?_
    rintro e w1 ⟨a1, c1, rfl, hu1, h1⟩
    have U1 := Lib.hid hu1
    have H1 := Lib.hid (Held.of_new h1)
    clear hu1 h1
    go_wp2_with fail
    refine (cloneStr aV p cV t _ (by omega) (HV.out.upd U1.out)).mono ?_
    rintro e w2 ⟨a2, c2, rfl, hu2, h2⟩
    have U2 := Lib.hid (U1.out.trans hu2)
    have H3 := Lib.hid (((H1.out.upd hu2 (fun c h => h.elim)).mono hu2.size).less hn1)
    have H2 := Lib.hid ((Held.of_new h2).less hn2)
    clear hu2 h2 H1 U1
    go_wp2_with fail
    refine (HMIN.out _).mono ?_
    rintro e w' ⟨rfl, rfl⟩
    clear d1 d2 d3 d4 hbig hz1 hz2 HS HT HN HV HMIN
    go_wp2_with fail
    refine (build_closure a1 a2 k c1 p c2 n s t _ (by omega) hn1 hn2 H3.out H2.out).mono ?_
    rintro e w3 ⟨rfl, hc⟩
    have U3 := Lib.hid (U2.out.trans hc.upd)
    obtain ⟨D, hD⟩ : ∃ D, w2.heap.size = D := ⟨_, rfl⟩
    have hS : Ups w2 w3 w2.heap.size n s t t a1 a2 := ⟨hc, H3.out.upd hc.upd (fun c h => h.elim), H2.out.upd hc.upd (fun c h => h.elim)⟩
    rw [hD] at hS ⊢
    have S3 := Lib.hid hS
    clear hS hD hc H2 H3
    rw [hn] at hno
    go_wp2_with fail
    have hS4 := S3.out.next ((Upd.refl _ _).alloc (.cells #[.pointer none, .pointer none, .pointer none, .nilFunc, .bool false, .int .i64 0, .int .i64 0, .int .i64 0, .int .i64 0, .bool false, .bool false, .bool false, .int .i32 0, .pointer none, .nilIface, .pointer none, .pointer none, .bool false, .pointer none, .bool false, .nilFunc] 63))
    have S4 := Lib.hid hS4
    clear hS4
    refine (set_upvalue_out (D + 3 + n) n n _ _ _ no 74 (.string v) _ hn3 hno (by omega) hn4 (by exact S4.out.clo.fn)).mono ?_
    rintro e w5 ⟨rfl, rfl⟩
    have HNO := Lib.hid hno
    have HN3 := Lib.hid hn3
    have HN4 := Lib.hid hn4
    clear S3 hn hn3 hn4
    have hout : decide (1 ≤ no) = false ∨ decide (1 ≤ no) = true ∧ decide (no ≤ (n : Int)) = false := by
      rcases hno with h | h
      · exact .inl (decide_eq_false (by omega))
      · exact .inr ⟨decide_eq_true (by omega), decide_eq_false (by omega)⟩
    clear hno
    rcases hout with hd | ⟨hd, hd2⟩
    all_goals
      go_wp2_with fail
      go_loopw [14] (fun i wq => ∃ q : Nat, q ≤ n ∧ i = .int .i64 q ∧ Ups w2 wq D n s t t a1 a2) (fun i _ => n - (intOf i).toNat)
      case atStart => exact ⟨0, Nat.zero_le _, rfl, S4.out⟩
      case round =>
        obtain ⟨q, hq, rfl, hS⟩ := hrel
        have S6 := Lib.hid hS
        clear hS S4
        by_cases hlt : q < n
        · obtain ⟨b2, off2, ha2, hb2, cv⟩ := S6.out.val q hlt
          subst ha2
          have f4 := S6.out.clo.fn.at (o := 4) rfl
          have u := S6.out.clo.ups.at (tab_in hlt)
          have i4 : (0 : Int) ≤ (q : Int) := by omega
          have i5 : (q : Int) < (p : Int) := by omega
          have i6 : (q : Int) < (n : Int) := by omega
          go_wp2_with fail
          refine (uv_value (D + 2 + q) _ false _ (by exact S6.out.clo.box q hlt)).mono ?_
          rintro e w' ⟨rfl, rfl⟩
          go_wp2_with fail
          refine (reads_string (t q) _).mono ?_
          rintro e w' ⟨rfl, rfl⟩
          go_wp2
          go_roundw
          case rel => exact ⟨q + 1, by omega, by go_num, S6.out⟩
          case measure => simp [intOf]; omega
        · obtain rfl : q = n := by omega
          go_wp2_with fail
          refine (get_upvalue_out (D + 3 + q) q q _ _ _ no _ HN3.out HNO.out (by omega) HN4.out (by exact S6.out.clo.fn)).mono ?_
          rintro e w' ⟨rfl, rfl⟩
          go_wp2_with fail
          refine (reads_nil _).mono ?_
          rintro e w' ⟨rfl, rfl⟩
          go_wp2
          go_ret
          exact ⟨rfl, (U2.out.trans S6.out.clo.upd).below (Nat.le_refl _) (fun k h => h.elim)⟩

set_option maxHeartbeats 800000 in
theorem exact_long (aN aV : Option Addr) (k cN p cV : Nat) (s t : Nat → ByteArray) (no : Int) (v : ByteArray) (w : World) (hkm : k ≤ 9223372036854775807) (hpm : p ≤ 9223372036854775807) (hl : ¬ (k ≤ 65536 ∧ p ≤ 65536))
    (hN : Cells w aN k fun j => .string (s j)) (hV : Cells w aV p fun j => .string (t j)) :
    Calls Tryz.prog 11 #[.slice aN k cN, .slice aV p cV, .int .i64 no, .string v] w (Good w) := by
  have hz := zzExact aN aV k cN p cV s t no v w hkm hpm hN hV
  clear hkm hpm hN hV
  by_cases h1 : k ≤ 65536
  · have d1 : decide ((65536 : Int) < (k : Int)) = false := decide_eq_false (by omega)
    have d2 : decide ((65536 : Int) < (p : Int)) = true := decide_eq_true (by omega)
    clear hl h1
    go_enter Tryz.func11, Tryz.ntmps11
    go_wp2_with fail
    refine hz.mono ?_
    rintro e w' ⟨b, rfl, rfl, hb⟩
    clear hb
    cases b
    all_goals
      go_wp2
      go_ret
      exact ⟨rfl, Below.refl _ _⟩
  · have d1 : decide ((65536 : Int) < (k : Int)) = true := decide_eq_true (by omega)
    clear hl h1
    go_enter Tryz.func11, Tryz.ntmps11
    go_wp2_with fail
    refine hz.mono ?_
    rintro e w' ⟨b, rfl, rfl, hb⟩
    clear hb
    cases b
    all_goals
      go_wp2
      go_ret
      exact ⟨rfl, Below.refl _ _⟩
end Go.Proofs.YtejhfhcndpehiaaGreatFmt
