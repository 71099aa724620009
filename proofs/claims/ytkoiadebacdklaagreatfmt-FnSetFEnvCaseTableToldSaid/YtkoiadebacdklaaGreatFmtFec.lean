/- FnSetFEnvLastWriteWinsSeenByGetFEnv: walked, for each kind of object. -/
import Derived.Test.YtkoiadebacdklaaGreatFmtFeb
namespace Go.Proofs.YtkoiadebacdklaaGreatFmt
open Go.RowKit
set_option maxRecDepth 100000

def fne (g : Bool) (E : Nat) : List Value := [.bool g, .pointer (some ⟨E, 0, none⟩), .pointer none, .nilFunc, .slice none 0 0]
def ude (E : Nat) : List Value := [.nilIface, .pointer (some ⟨E, 0, none⟩), .nilIface]
def the (E : Nat) : List Value := [.pointer none, .pointer none, .pointer (some ⟨E, 0, none⟩), .nilFunc, .bool false, .int .i64 0, .int .i64 0, .int .i64 0, .int .i64 0, .bool false, .bool false, .bool false, .int .i32 0, .pointer none, .nilIface, .pointer none, .pointer none, .bool false, .pointer none, .bool false, .nilFunc]

set_option maxHeartbeats 400000 in
theorem nil_type (w : World) : Calls Tryz.prog 247 #[.int .u8 0] w fun e w' => e = .returned (.int .i64 0) ∧ w = w' := by
  go_enter Tryz.func247, Tryz.ntmps247
  go_wp2
  go_ret
  exact ⟨rfl, rfl⟩

set_option maxHeartbeats 400000 in
theorem reads_nil (w : World) : Calls Tryz.prog 51 #[nilw] w fun e w' => e = .returned (.bool true) ∧ w = w' := by
  unfold nilw
  go_enter Tryz.func51, Tryz.ntmps51
  go_wp2_with fail
  refine (nil_type _).mono ?_
  rintro e w' ⟨rfl, rfl⟩
  go_wp2
  go_ret
  exact ⟨rfl, rfl⟩

theorem NewT.blk {w w' : World} {T A m : Nat} (h : NewT w w' T A m) {b : Nat} {l : List Value} {t : TypeId} (hb : Blk w b l t) : Blk w' b l t := h.upd.blk hb (fun h => h)

set_option maxHeartbeats 1600000 in
theorem last_0 (kd : Int) (n : Nat) (w : World) (hn : n ≤ 4096) (hk : kq kd 7 = 0) : Calls Tryz.prog 9 #[.int .i64 kd, .int .i64 n] w (Good w) := by
  go_enter Tryz.func9, Tryz.ntmps9
  go_wp2_with fail
  refine (kind_of7 kd _).mono ?_
  rintro e w' ⟨rfl, rfl⟩
  rw [hk]
  go_wp2_with fail
  refine (new_table _ _).mono ?_
  rintro e w1 ⟨T0, A0, m0, rfl, hn1⟩
  have U1 := Lib.hid (((Upd.refl _ _).alloc _).trans hn1.upd)
  clear hn1
  go_wp2_with fail
  refine (new_table _ _).mono ?_
  rintro e w2 ⟨Tb, Ab, mb, rfl, hn2⟩
  have U2 := Lib.hid (((((U1.out.alloc _).alloc _).alloc _).alloc _).trans hn2.upd)
  have hold := hn2.old
  simp only [World.size_alloc] at hold
  have hsz := U1.out.size
  obtain ⟨O, hO⟩ : ∃ O, w1.heap.size = O := ⟨_, rfl⟩
  have hbo : Blk w2 (w1.heap.size) (fne false T0) 59 := hn2.blk ((((Blk.new w1 (fne false T0) _).alloc _).alloc _).alloc _)
  rw [hO] at hbo
  rw [hO]
  have hOT : O ≠ Tb := by omega
  have hOw : w.heap.size ≤ O := by omega
  have BO := Lib.hid hbo
  have BT := Lib.hid hn2.tb
  have hTw : w.heap.size ≤ Tb := by omega
  have t0 := hn2.tb.at (o := 0) rfl
  have tf := hn2.tb.free 0
  clear hn2 hold hbo hO
  unfold nilw at t0
  go_wp2_with fail
  obtain ⟨Sb, hSb⟩ : ∃ Sb, w2.heap.size = Sb := ⟨_, rfl⟩
  rw [hSb]
  have SB := Lib.hid hSb
  have hST : Sb ≠ Tb := by have := BT.out.lt; omega
  have hSw : w.heap.size ≤ Sb := by have := U2.out.size; omega
  have hSO : Sb ≠ O := by have := BO.out.lt; omega
  clear hSb t0 tf hsz
  go_loopw [14, 15] (fun l i wr => ∃ (j T : Nat), j ≤ n ∧ i = .int .i64 j ∧ l = .pointer (some ⟨T, 0, none⟩) ∧ Upd (fun _ => False) w wr ∧ Blk wr Sb (fne false T0) 59 ∧ Blk wr Tb (ltab (tabv T0) Ab mb) 108 ∧ Blk wr O (fne false T) 59) (fun _ i _ => n - (intOf i).toNat)
  case atStart => exact ⟨0, T0, Nat.zero_le _, rfl, rfl, (U2.out.setCell ⟨Tb, 0, none⟩ _ (.inr hTw)).alloc _, Blk.new_at (by simp [SB.out]) (fne false T0) _, (BT.out.set 0 (tabv T0)).alloc _, (BO.out.set_other _ _ hOT).alloc _⟩
  case round =>
    obtain ⟨j, T, hj, rfl, rfl, hu3, hs3, ht3, ho3⟩ := hrel
    have U3 := Lib.hid hu3
    have S3 := Lib.hid hs3
    have T3 := Lib.hid ht3
    have O3 := Lib.hid ho3
    clear hu3 hs3 ht3 ho3 U2 BT SB BO
    by_cases hlt : j < n
    · go_wp2_with fail
      refine (new_table _ _).mono ?_
      rintro e w4 ⟨T2, A2, m2, rfl, hn4⟩
      have U4 := Lib.hid (U3.out.trans hn4.upd)
      have S4 := Lib.hid (hn4.blk S3.out)
      have T4 := Lib.hid (hn4.blk T3.out)
      have O4 := Lib.hid (hn4.blk O3.out)
      clear hn4
      go_wp2_with fail
      refine (set_fn _ O T2 _ _ _ O4.out rfl).mono ?_
      rintro e w5 ⟨rfl, hu5, ho5⟩
      have U5 := Lib.hid (U4.out.trans_new hu5 (fun c h => by have h : c = O := h; omega))
      have S5 := Lib.hid (hu5.blk S4.out hSO)
      have T5 := Lib.hid (hu5.blk T4.out (fun h => hOT h.symm))
      have O5 := Lib.hid ho5
      clear hu5 ho5
      go_wp2
      go_roundw
      case rel => exact ⟨j + 1, T2, by omega, by go_num, rfl, U5.out, S5.out, T5.out, O5.out⟩
      case measure => simp [intOf]; omega
    · obtain rfl : j = n := by omega
      have s1 := S3.out.at (o := 1) rfl
      go_wp2_with fail
      refine (get_fn _ O T _ _ O3.out rfl).mono ?_
      rintro e w' ⟨rfl, rfl⟩
      unfold tabv
      go_wp2
      go_ret
      exact ⟨rfl, U3.out.below (Nat.le_refl _) (fun _ h => h.elim)⟩

set_option maxHeartbeats 1600000 in
theorem last_1 (kd : Int) (n : Nat) (w : World) (hn : n ≤ 4096) (hk : kq kd 7 = 1) : Calls Tryz.prog 9 #[.int .i64 kd, .int .i64 n] w (Good w) := by
  go_enter Tryz.func9, Tryz.ntmps9
  go_wp2_with fail
  refine (kind_of7 kd _).mono ?_
  rintro e w' ⟨rfl, rfl⟩
  rw [hk]
  go_wp2_with fail
  refine (new_table _ _).mono ?_
  rintro e w1 ⟨T0, A0, m0, rfl, hn1⟩
  have U1 := Lib.hid (((Upd.refl _ _).alloc _).trans hn1.upd)
  clear hn1
  go_wp2_with fail
  refine (new_table _ _).mono ?_
  rintro e w2 ⟨Tb, Ab, mb, rfl, hn2⟩
  have U2 := Lib.hid (((((U1.out.alloc _).alloc _).alloc _).alloc _).trans hn2.upd)
  have hold := hn2.old
  simp only [World.size_alloc] at hold
  have hsz := U1.out.size
  obtain ⟨O, hO⟩ : ∃ O, w1.heap.size + 1 = O := ⟨_, rfl⟩
  have hbo : Blk w2 (w1.heap.size + 1) (ude T0) 103 := hn2.blk (((Blk.new_at (by simp) (ude T0) _).alloc _).alloc _)
  rw [hO] at hbo
  rw [hO]
  have hOT : O ≠ Tb := by omega
  have hOw : w.heap.size ≤ O := by omega
  have BO := Lib.hid hbo
  have BT := Lib.hid hn2.tb
  have hTw : w.heap.size ≤ Tb := by omega
  have t0 := hn2.tb.at (o := 0) rfl
  have tf := hn2.tb.free 0
  clear hn2 hold hbo hO
  unfold nilw at t0
  go_wp2_with fail
  obtain ⟨Sb, hSb⟩ : ∃ Sb, w2.heap.size = Sb := ⟨_, rfl⟩
  rw [hSb]
  have SB := Lib.hid hSb
  have hST : Sb ≠ Tb := by have := BT.out.lt; omega
  have hSw : w.heap.size ≤ Sb := by have := U2.out.size; omega
  have hSO : Sb ≠ O := by have := BO.out.lt; omega
  clear hSb t0 tf hsz
  go_loopw [14, 15] (fun l i wr => ∃ (j T : Nat), j ≤ n ∧ i = .int .i64 j ∧ l = .pointer (some ⟨T, 0, none⟩) ∧ Upd (fun _ => False) w wr ∧ Blk wr Sb (fne false T0) 59 ∧ Blk wr Tb (ltab (tabv T0) Ab mb) 108 ∧ Blk wr O (ude T) 103) (fun _ i _ => n - (intOf i).toNat)
  case atStart => exact ⟨0, T0, Nat.zero_le _, rfl, rfl, (U2.out.setCell ⟨Tb, 0, none⟩ _ (.inr hTw)).alloc _, Blk.new_at (by simp [SB.out]) (fne false T0) _, (BT.out.set 0 (tabv T0)).alloc _, (BO.out.set_other _ _ hOT).alloc _⟩
  case round =>
    obtain ⟨j, T, hj, rfl, rfl, hu3, hs3, ht3, ho3⟩ := hrel
    have U3 := Lib.hid hu3
    have S3 := Lib.hid hs3
    have T3 := Lib.hid ht3
    have O3 := Lib.hid ho3
    clear hu3 hs3 ht3 ho3 U2 BT SB BO
    by_cases hlt : j < n
    · go_wp2_with fail
      refine (new_table _ _).mono ?_
      rintro e w4 ⟨T2, A2, m2, rfl, hn4⟩
      have U4 := Lib.hid (U3.out.trans hn4.upd)
      have S4 := Lib.hid (hn4.blk S3.out)
      have T4 := Lib.hid (hn4.blk T3.out)
      have O4 := Lib.hid (hn4.blk O3.out)
      clear hn4
      go_wp2_with fail
      refine (set_ud _ O T2 _ _ _ O4.out rfl).mono ?_
      rintro e w5 ⟨rfl, hu5, ho5⟩
      have U5 := Lib.hid (U4.out.trans_new hu5 (fun c h => by have h : c = O := h; omega))
      have S5 := Lib.hid (hu5.blk S4.out hSO)
      have T5 := Lib.hid (hu5.blk T4.out (fun h => hOT h.symm))
      have O5 := Lib.hid ho5
      clear hu5 ho5
      go_wp2
      go_roundw
      case rel => exact ⟨j + 1, T2, by omega, by go_num, rfl, U5.out, S5.out, T5.out, O5.out⟩
      case measure => simp [intOf]; omega
    · obtain rfl : j = n := by omega
      have s1 := S3.out.at (o := 1) rfl
      go_wp2_with fail
      refine (get_ud _ O T _ _ O3.out rfl).mono ?_
      rintro e w' ⟨rfl, rfl⟩
      unfold tabv
      go_wp2
      go_ret
      exact ⟨rfl, U3.out.below (Nat.le_refl _) (fun _ h => h.elim)⟩

set_option maxHeartbeats 1600000 in
theorem last_2 (kd : Int) (n : Nat) (w : World) (hn : n ≤ 4096) (hk : kq kd 7 = 2) : Calls Tryz.prog 9 #[.int .i64 kd, .int .i64 n] w (Good w) := by
  go_enter Tryz.func9, Tryz.ntmps9
  go_wp2_with fail
  refine (kind_of7 kd _).mono ?_
  rintro e w' ⟨rfl, rfl⟩
  rw [hk]
  go_wp2_with fail
  refine (new_table _ _).mono ?_
  rintro e w1 ⟨T0, A0, m0, rfl, hn1⟩
  have U1 := Lib.hid (((Upd.refl _ _).alloc _).trans hn1.upd)
  clear hn1
  go_wp2_with fail
  refine (new_table _ _).mono ?_
  rintro e w2 ⟨Tb, Ab, mb, rfl, hn2⟩
  have U2 := Lib.hid (((((U1.out.alloc _).alloc _).alloc _).alloc _).trans hn2.upd)
  have hold := hn2.old
  simp only [World.size_alloc] at hold
  have hsz := U1.out.size
  obtain ⟨O, hO⟩ : ∃ O, w1.heap.size + 1 + 1 = O := ⟨_, rfl⟩
  have hbo : Blk w2 (w1.heap.size + 1 + 1) (the T0) 46 := hn2.blk ((Blk.new_at (by simp) (the T0) _).alloc _)
  rw [hO] at hbo
  rw [hO]
  have hOT : O ≠ Tb := by omega
  have hOw : w.heap.size ≤ O := by omega
  have BO := Lib.hid hbo
  have BT := Lib.hid hn2.tb
  have hTw : w.heap.size ≤ Tb := by omega
  have t0 := hn2.tb.at (o := 0) rfl
  have tf := hn2.tb.free 0
  clear hn2 hold hbo hO
  unfold nilw at t0
  go_wp2_with fail
  obtain ⟨Sb, hSb⟩ : ∃ Sb, w2.heap.size = Sb := ⟨_, rfl⟩
  rw [hSb]
  have SB := Lib.hid hSb
  have hST : Sb ≠ Tb := by have := BT.out.lt; omega
  have hSw : w.heap.size ≤ Sb := by have := U2.out.size; omega
  have hSO : Sb ≠ O := by have := BO.out.lt; omega
  clear hSb t0 tf hsz
  go_loopw [14, 15] (fun l i wr => ∃ (j T : Nat), j ≤ n ∧ i = .int .i64 j ∧ l = .pointer (some ⟨T, 0, none⟩) ∧ Upd (fun _ => False) w wr ∧ Blk wr Sb (fne false T0) 59 ∧ Blk wr Tb (ltab (tabv T0) Ab mb) 108 ∧ Blk wr O (the T) 46) (fun _ i _ => n - (intOf i).toNat)
  case atStart => exact ⟨0, T0, Nat.zero_le _, rfl, rfl, (U2.out.setCell ⟨Tb, 0, none⟩ _ (.inr hTw)).alloc _, Blk.new_at (by simp [SB.out]) (fne false T0) _, (BT.out.set 0 (tabv T0)).alloc _, (BO.out.set_other _ _ hOT).alloc _⟩
  case round =>
    obtain ⟨j, T, hj, rfl, rfl, hu3, hs3, ht3, ho3⟩ := hrel
    have U3 := Lib.hid hu3
    have S3 := Lib.hid hs3
    have T3 := Lib.hid ht3
    have O3 := Lib.hid ho3
    clear hu3 hs3 ht3 ho3 U2 BT SB BO
    by_cases hlt : j < n
    · go_wp2_with fail
      refine (new_table _ _).mono ?_
      rintro e w4 ⟨T2, A2, m2, rfl, hn4⟩
      have U4 := Lib.hid (U3.out.trans hn4.upd)
      have S4 := Lib.hid (hn4.blk S3.out)
      have T4 := Lib.hid (hn4.blk T3.out)
      have O4 := Lib.hid (hn4.blk O3.out)
      clear hn4
      go_wp2_with fail
      refine (set_th _ O T2 _ _ _ O4.out rfl).mono ?_
      rintro e w5 ⟨rfl, hu5, ho5⟩
      have U5 := Lib.hid (U4.out.trans_new hu5 (fun c h => by have h : c = O := h; omega))
      have S5 := Lib.hid (hu5.blk S4.out hSO)
      have T5 := Lib.hid (hu5.blk T4.out (fun h => hOT h.symm))
      have O5 := Lib.hid ho5
      clear hu5 ho5
      go_wp2
      go_roundw
      case rel => exact ⟨j + 1, T2, by omega, by go_num, rfl, U5.out, S5.out, T5.out, O5.out⟩
      case measure => simp [intOf]; omega
    · obtain rfl : j = n := by omega
      have s1 := S3.out.at (o := 1) rfl
      go_wp2_with fail
      refine (get_th _ O T _ _ O3.out rfl).mono ?_
      rintro e w' ⟨rfl, rfl⟩
      unfold tabv
      go_wp2
      go_ret
      exact ⟨rfl, U3.out.below (Nat.le_refl _) (fun _ h => h.elim)⟩

set_option maxHeartbeats 1600000 in
theorem last_3 (kd : Int) (n : Nat) (w : World) (hn : n ≤ 4096) (hk : kq kd 7 = 3) : Calls Tryz.prog 9 #[.int .i64 kd, .int .i64 n] w (Good w) := by
  go_enter Tryz.func9, Tryz.ntmps9
  go_wp2_with fail
  refine (kind_of7 kd _).mono ?_
  rintro e w' ⟨rfl, rfl⟩
  rw [hk]
  go_wp2_with fail
  refine (new_table _ _).mono ?_
  rintro e w1 ⟨T0, A0, m0, rfl, hn1⟩
  have U1 := Lib.hid (((Upd.refl _ _).alloc _).trans hn1.upd)
  clear hn1
  go_wp2_with fail
  refine (new_table _ _).mono ?_
  rintro e w2 ⟨Tb, Ab, mb, rfl, hn2⟩
  have U2 := Lib.hid (((((U1.out.alloc _).alloc _).alloc _).alloc _).trans hn2.upd)
  have hold := hn2.old
  simp only [World.size_alloc] at hold
  have hsz := U1.out.size
  obtain ⟨O, hO⟩ : ∃ O, w1.heap.size + 1 + 1 + 1 = O := ⟨_, rfl⟩
  have hbo : Blk w2 (w1.heap.size + 1 + 1 + 1) (fne true T0) 59 := hn2.blk (Blk.new_at (by simp) (fne true T0) _)
  rw [hO] at hbo
  rw [hO]
  have hOT : O ≠ Tb := by omega
  have hOw : w.heap.size ≤ O := by omega
  have BO := Lib.hid hbo
  have BT := Lib.hid hn2.tb
  have hTw : w.heap.size ≤ Tb := by omega
  have t0 := hn2.tb.at (o := 0) rfl
  have tf := hn2.tb.free 0
  clear hn2 hold hbo hO
  unfold nilw at t0
  go_wp2_with fail
  obtain ⟨Sb, hSb⟩ : ∃ Sb, w2.heap.size = Sb := ⟨_, rfl⟩
  rw [hSb]
  have SB := Lib.hid hSb
  have hST : Sb ≠ Tb := by have := BT.out.lt; omega
  have hSw : w.heap.size ≤ Sb := by have := U2.out.size; omega
  have hSO : Sb ≠ O := by have := BO.out.lt; omega
  clear hSb t0 tf hsz
  go_loopw [14, 15] (fun l i wr => ∃ (j T : Nat), j ≤ n ∧ i = .int .i64 j ∧ l = .pointer (some ⟨T, 0, none⟩) ∧ Upd (fun _ => False) w wr ∧ Blk wr Sb (fne false T0) 59 ∧ Blk wr Tb (ltab (tabv T0) Ab mb) 108 ∧ Blk wr O (fne true T) 59) (fun _ i _ => n - (intOf i).toNat)
  case atStart => exact ⟨0, T0, Nat.zero_le _, rfl, rfl, (U2.out.setCell ⟨Tb, 0, none⟩ _ (.inr hTw)).alloc _, Blk.new_at (by simp [SB.out]) (fne false T0) _, (BT.out.set 0 (tabv T0)).alloc _, (BO.out.set_other _ _ hOT).alloc _⟩
  case round =>
    obtain ⟨j, T, hj, rfl, rfl, hu3, hs3, ht3, ho3⟩ := hrel
    have U3 := Lib.hid hu3
    have S3 := Lib.hid hs3
    have T3 := Lib.hid ht3
    have O3 := Lib.hid ho3
    clear hu3 hs3 ht3 ho3 U2 BT SB BO
    by_cases hlt : j < n
    · go_wp2_with fail
      refine (new_table _ _).mono ?_
      rintro e w4 ⟨T2, A2, m2, rfl, hn4⟩
      have U4 := Lib.hid (U3.out.trans hn4.upd)
      have S4 := Lib.hid (hn4.blk S3.out)
      have T4 := Lib.hid (hn4.blk T3.out)
      have O4 := Lib.hid (hn4.blk O3.out)
      clear hn4
      go_wp2_with fail
      refine (set_fn _ O T2 _ _ _ O4.out rfl).mono ?_
      rintro e w5 ⟨rfl, hu5, ho5⟩
      have U5 := Lib.hid (U4.out.trans_new hu5 (fun c h => by have h : c = O := h; omega))
      have S5 := Lib.hid (hu5.blk S4.out hSO)
      have T5 := Lib.hid (hu5.blk T4.out (fun h => hOT h.symm))
      have O5 := Lib.hid ho5
      clear hu5 ho5
      go_wp2
      go_roundw
      case rel => exact ⟨j + 1, T2, by omega, by go_num, rfl, U5.out, S5.out, T5.out, O5.out⟩
      case measure => simp [intOf]; omega
    · obtain rfl : j = n := by omega
      have s1 := S3.out.at (o := 1) rfl
      go_wp2_with fail
      refine (get_fn _ O T _ _ O3.out rfl).mono ?_
      rintro e w' ⟨rfl, rfl⟩
      unfold tabv
      go_wp2
      go_ret
      exact ⟨rfl, U3.out.below (Nat.le_refl _) (fun _ h => h.elim)⟩

set_option maxHeartbeats 1600000 in
theorem last_4 (kd : Int) (n : Nat) (w : World) (hn : n ≤ 4096) (hk : kq kd 7 = 4) : Calls Tryz.prog 9 #[.int .i64 kd, .int .i64 n] w (Good w) := by
  go_enter Tryz.func9, Tryz.ntmps9
  go_wp2_with fail
  refine (kind_of7 kd _).mono ?_
  rintro e w' ⟨rfl, rfl⟩
  rw [hk]
  go_wp2_with fail
  refine (new_table _ _).mono ?_
  rintro e w1 ⟨T0, A0, m0, rfl, hn1⟩
  have U1 := Lib.hid (((Upd.refl _ _).alloc _).trans hn1.upd)
  clear hn1
  go_wp2_with fail
  refine (new_table _ _).mono ?_
  rintro e w2 ⟨Tb, Ab, mb, rfl, hn2⟩
  have U2 := Lib.hid (((((U1.out.alloc _).alloc _).alloc _).alloc _).trans hn2.upd)
  have hold := hn2.old
  simp only [World.size_alloc] at hold
  have hsz := U1.out.size
  have BT := Lib.hid hn2.tb
  have hTw : w.heap.size ≤ Tb := by omega
  have t0 := hn2.tb.at (o := 0) rfl
  have tf := hn2.tb.free 0
  clear hn2 hold
  unfold nilw at t0
  go_wp2_with fail
  obtain ⟨Sb, hSb⟩ : ∃ Sb, w2.heap.size = Sb := ⟨_, rfl⟩
  rw [hSb]
  have SB := Lib.hid hSb
  have hST : Sb ≠ Tb := by have := BT.out.lt; omega
  have hSw : w.heap.size ≤ Sb := by have := U2.out.size; omega
  clear hSb t0 tf hsz
  go_loopw [14, 15] (fun l i wr => ∃ (j T : Nat), j ≤ n ∧ i = .int .i64 j ∧ l = .pointer (some ⟨T, 0, none⟩) ∧ Upd (fun _ => False) w wr ∧ Blk wr Sb (fne false T0) 59 ∧ Blk wr Tb (ltab (tabv T0) Ab mb) 108) (fun _ i _ => n - (intOf i).toNat)
  case atStart => exact ⟨0, T0, Nat.zero_le _, rfl, rfl, (U2.out.setCell ⟨Tb, 0, none⟩ _ (.inr hTw)).alloc _, Blk.new_at (by simp [SB.out]) (fne false T0) _, (BT.out.set 0 (tabv T0)).alloc _⟩
  case round =>
    obtain ⟨j, T, hj, rfl, rfl, hu3, hs3, ht3⟩ := hrel
    have U3 := Lib.hid hu3
    have S3 := Lib.hid hs3
    have T3 := Lib.hid ht3
    clear hu3 hs3 ht3 U2 BT SB
    by_cases hlt : j < n
    · go_wp2_with fail
      refine (new_table _ _).mono ?_
      rintro e w4 ⟨T2, A2, m2, rfl, hn4⟩
      have U4 := Lib.hid (U3.out.trans hn4.upd)
      have S4 := Lib.hid (hn4.blk S3.out)
      have T4 := Lib.hid (hn4.blk T3.out)
      clear hn4
      go_wp2_with fail
      refine (set_tab _ Tb T2 _).mono ?_
      rintro e w5 ⟨rfl, rfl⟩
      go_wp2
      go_roundw
      case rel => exact ⟨j + 1, T2, by omega, by go_num, rfl, U4.out, S4.out, T4.out⟩
      case measure => simp [intOf]; omega
    · obtain rfl : j = n := by omega
      have s1 := S3.out.at (o := 1) rfl
      have t0 := T3.out.at (o := 0) rfl
      unfold tabv at t0
      go_wp2_with fail
      refine (get_tab _ Tb _).mono ?_
      rintro e w' ⟨rfl, rfl⟩
      go_wp2_with fail
      refine (reads_nil _).mono ?_
      rintro e w' ⟨rfl, rfl⟩
      go_wp2
      go_ret
      exact ⟨rfl, U3.out.below (Nat.le_refl _) (fun _ h => h.elim)⟩

set_option maxHeartbeats 1600000 in
theorem last_5 (kd : Int) (n : Nat) (w : World) (hn : n ≤ 4096) (hk : kq kd 7 = 5) : Calls Tryz.prog 9 #[.int .i64 kd, .int .i64 n] w (Good w) := by
  go_enter Tryz.func9, Tryz.ntmps9
  go_wp2_with fail
  refine (kind_of7 kd _).mono ?_
  rintro e w' ⟨rfl, rfl⟩
  rw [hk]
  go_wp2_with fail
  refine (new_table _ _).mono ?_
  rintro e w1 ⟨T0, A0, m0, rfl, hn1⟩
  have U1 := Lib.hid (((Upd.refl _ _).alloc _).trans hn1.upd)
  clear hn1
  go_wp2_with fail
  refine (new_table _ _).mono ?_
  rintro e w2 ⟨Tb, Ab, mb, rfl, hn2⟩
  have U2 := Lib.hid (((((U1.out.alloc _).alloc _).alloc _).alloc _).trans hn2.upd)
  have hold := hn2.old
  simp only [World.size_alloc] at hold
  have hsz := U1.out.size
  have BT := Lib.hid hn2.tb
  have hTw : w.heap.size ≤ Tb := by omega
  have t0 := hn2.tb.at (o := 0) rfl
  have tf := hn2.tb.free 0
  clear hn2 hold
  unfold nilw at t0
  go_wp2_with fail
  obtain ⟨Sb, hSb⟩ : ∃ Sb, w2.heap.size = Sb := ⟨_, rfl⟩
  rw [hSb]
  have SB := Lib.hid hSb
  have hST : Sb ≠ Tb := by have := BT.out.lt; omega
  have hSw : w.heap.size ≤ Sb := by have := U2.out.size; omega
  clear hSb t0 tf hsz
  go_loopw [14, 15] (fun l i wr => ∃ (j T : Nat), j ≤ n ∧ i = .int .i64 j ∧ l = .pointer (some ⟨T, 0, none⟩) ∧ Upd (fun _ => False) w wr ∧ Blk wr Sb (fne false T0) 59 ∧ Blk wr Tb (ltab (tabv T0) Ab mb) 108) (fun _ i _ => n - (intOf i).toNat)
  case atStart => exact ⟨0, T0, Nat.zero_le _, rfl, rfl, (U2.out.setCell ⟨Tb, 0, none⟩ _ (.inr hTw)).alloc _, Blk.new_at (by simp [SB.out]) (fne false T0) _, (BT.out.set 0 (tabv T0)).alloc _⟩
  case round =>
    obtain ⟨j, T, hj, rfl, rfl, hu3, hs3, ht3⟩ := hrel
    have U3 := Lib.hid hu3
    have S3 := Lib.hid hs3
    have T3 := Lib.hid ht3
    clear hu3 hs3 ht3 U2 BT SB
    by_cases hlt : j < n
    · go_wp2_with fail
      refine (new_table _ _).mono ?_
      rintro e w4 ⟨T2, A2, m2, rfl, hn4⟩
      have U4 := Lib.hid (U3.out.trans hn4.upd)
      have S4 := Lib.hid (hn4.blk S3.out)
      have T4 := Lib.hid (hn4.blk T3.out)
      clear hn4
      go_wp2_with fail
      refine (set_str _ _ T2 _).mono ?_
      rintro e w5 ⟨rfl, rfl⟩
      go_wp2
      go_roundw
      case rel => exact ⟨j + 1, T2, by omega, by go_num, rfl, U4.out, S4.out, T4.out⟩
      case measure => simp [intOf]; omega
    · obtain rfl : j = n := by omega
      have s1 := S3.out.at (o := 1) rfl
      go_wp2_with fail
      refine (get_str _ _ _).mono ?_
      rintro e w' ⟨rfl, rfl⟩
      go_wp2_with fail
      refine (reads_nil _).mono ?_
      rintro e w' ⟨rfl, rfl⟩
      go_wp2
      go_ret
      exact ⟨rfl, U3.out.below (Nat.le_refl _) (fun _ h => h.elim)⟩

set_option maxHeartbeats 1600000 in
theorem last_6 (kd : Int) (n : Nat) (w : World) (hn : n ≤ 4096) (hk : kq kd 7 = 6) : Calls Tryz.prog 9 #[.int .i64 kd, .int .i64 n] w (Good w) := by
  go_enter Tryz.func9, Tryz.ntmps9
  go_wp2_with fail
  refine (kind_of7 kd _).mono ?_
  rintro e w' ⟨rfl, rfl⟩
  rw [hk]
  go_wp2_with fail
  refine (new_table _ _).mono ?_
  rintro e w1 ⟨T0, A0, m0, rfl, hn1⟩
  have U1 := Lib.hid (((Upd.refl _ _).alloc _).trans hn1.upd)
  clear hn1
  go_wp2_with fail
  refine (new_table _ _).mono ?_
  rintro e w2 ⟨Tb, Ab, mb, rfl, hn2⟩
  have U2 := Lib.hid (((((U1.out.alloc _).alloc _).alloc _).alloc _).trans hn2.upd)
  have hold := hn2.old
  simp only [World.size_alloc] at hold
  have hsz := U1.out.size
  have BT := Lib.hid hn2.tb
  have hTw : w.heap.size ≤ Tb := by omega
  have t0 := hn2.tb.at (o := 0) rfl
  have tf := hn2.tb.free 0
  clear hn2 hold
  unfold nilw at t0
  go_wp2_with fail
  obtain ⟨Sb, hSb⟩ : ∃ Sb, w2.heap.size = Sb := ⟨_, rfl⟩
  rw [hSb]
  have SB := Lib.hid hSb
  have hST : Sb ≠ Tb := by have := BT.out.lt; omega
  have hSw : w.heap.size ≤ Sb := by have := U2.out.size; omega
  clear hSb t0 tf hsz
  go_loopw [14, 15] (fun l i wr => ∃ (j T : Nat), j ≤ n ∧ i = .int .i64 j ∧ l = .pointer (some ⟨T, 0, none⟩) ∧ Upd (fun _ => False) w wr ∧ Blk wr Sb (fne false T0) 59 ∧ Blk wr Tb (ltab (tabv T0) Ab mb) 108) (fun _ i _ => n - (intOf i).toNat)
  case atStart => exact ⟨0, T0, Nat.zero_le _, rfl, rfl, (U2.out.setCell ⟨Tb, 0, none⟩ _ (.inr hTw)).alloc _, Blk.new_at (by simp [SB.out]) (fne false T0) _, (BT.out.set 0 (tabv T0)).alloc _⟩
  case round =>
    obtain ⟨j, T, hj, rfl, rfl, hu3, hs3, ht3⟩ := hrel
    have U3 := Lib.hid hu3
    have S3 := Lib.hid hs3
    have T3 := Lib.hid ht3
    clear hu3 hs3 ht3 U2 BT SB
    by_cases hlt : j < n
    · go_wp2_with fail
      refine (new_table _ _).mono ?_
      rintro e w4 ⟨T2, A2, m2, rfl, hn4⟩
      have U4 := Lib.hid (U3.out.trans hn4.upd)
      have S4 := Lib.hid (hn4.blk S3.out)
      have T4 := Lib.hid (hn4.blk T3.out)
      clear hn4
      go_wp2_with fail
      refine (set_num _ _ T2 _).mono ?_
      rintro e w5 ⟨rfl, rfl⟩
      go_wp2
      go_roundw
      case rel => exact ⟨j + 1, T2, by omega, by go_num, rfl, U4.out, S4.out, T4.out⟩
      case measure => simp [intOf]; omega
    · obtain rfl : j = n := by omega
      have s1 := S3.out.at (o := 1) rfl
      go_wp2_with fail
      refine (get_num _ _ _).mono ?_
      rintro e w' ⟨rfl, rfl⟩
      go_wp2_with fail
      refine (reads_nil _).mono ?_
      rintro e w' ⟨rfl, rfl⟩
      go_wp2
      go_ret
      exact ⟨rfl, U3.out.below (Nat.le_refl _) (fun _ h => h.elim)⟩

theorem last_in (kd : Int) (n : Nat) (w : World) (hn : n ≤ 4096) : Calls Tryz.prog 9 #[.int .i64 kd, .int .i64 n] w (Good w) := by
  have h := kq_lt kd 7 (by omega)
  have h : kq kd 7 = 0 ∨ kq kd 7 = 1 ∨ kq kd 7 = 2 ∨ kq kd 7 = 3 ∨ kq kd 7 = 4 ∨ kq kd 7 = 5 ∨ kq kd 7 = 6 := by omega
  rcases h with h | h | h | h | h | h | h
  · exact last_0 kd n w hn h
  · exact last_1 kd n w hn h
  · exact last_2 kd n w hn h
  · exact last_3 kd n w hn h
  · exact last_4 kd n w hn h
  · exact last_5 kd n w hn h
  · exact last_6 kd n w hn h

set_option maxHeartbeats 400000 in
theorem last_out (kd n : Int) (w : World) (hn : n < 0 ∨ 4096 < n) : Calls Tryz.prog 9 #[.int .i64 kd, .int .i64 n] w (Good w) := by
  by_cases h : n < 0
  · go_enter Tryz.func9, Tryz.ntmps9
    go_wp2
    go_ret
    exact ⟨rfl, Below.refl _ _⟩
  · have h2 : 4096 < n := by omega
    go_enter Tryz.func9, Tryz.ntmps9
    go_wp2
    go_ret
    exact ⟨rfl, Below.refl _ _⟩
end Go.Proofs.YtkoiadebacdklaaGreatFmt
