/- FnToTableWhole, walked. -/
import Derived.Test.YtejhfhcndpehiaaGreatFmtKind5
import Derived.IntWalk
namespace Go.Proofs.YtejhfhcndpehiaaGreatFmt
open Go.RowKit
set_option maxRecDepth 100000

theorem Fin.env {w wr : World} {S G R A RT GT Tb Fb Ub Hb k : Nat} {K o : Nat → Nat} {x : Nat → Value} (h : Fin w wr S G R A RT GT GT Tb Fb Ub Hb k K o x) :
    Fin w ((wr.setCell ⟨S, 2, none⟩ (.pointer (some ⟨wr.heap.size, 0, none⟩))).alloc (.cells #[.nilIface, .slice none 0 0, .map none, .map none, .slice none 0 0, .map none] 50)) S G R A RT GT wr.heap.size Tb Fb Ub Hb k K o x := by
  have od := h.st.ord
  obtain ⟨o1, o2, o3, o4⟩ := h.ord
  have lS := h.st.st.lt
  refine ⟨(h.upd.setCell _ _ (.inr h.old)).alloc _, h.old, ⟨od, (h.st.st.set 2 _).alloc _, ?_, ?_, ?_⟩, ?_, ?_, ?_, ?_, h.ord⟩
  · exact (h.st.g.set_other _ _ (by show G ≠ S; omega)).alloc _
  · exact (h.st.rg.set_other _ _ (by show R ≠ S; omega)).alloc _
  · exact (h.st.ar.set_other _ _ (by show A ≠ S; omega)).alloc _
  · exact (h.tb.set_other _ _ (by show Tb ≠ S; omega)).alloc _
  · exact (h.fb.set_other _ _ (by show Fb ≠ S; omega)).alloc _
  · exact (h.ub.set_other _ _ (by show Ub ≠ S; omega)).alloc _
  · exact (h.hb.set_other _ _ (by show Hb ≠ S; omega)).alloc _

set_option maxHeartbeats 1600000 in
theorem wholeTable_in (aK : Option Addr) (k cK : Nat) (f : Nat → Int) (n : Int) (m : Nat) (w : World) (hk : k ≤ 65536) (hf : ∀ j, j < k → 0 ≤ f j ∧ f j ≤ 255) (hK : Cells w aK k fun j => .int .u8 (f j)) (hn : -10000 < n) (hm : m < k)
    (hsl : ∀ w : World, Calls Tryz.prog 25 #[.int .i64 n, .int .i64 k] w fun e w' => e = .returned (.int .i64 m) ∧ w = w')
    (hget : ∀ (S G R A RT GT E : Nat) (g : Nat → Value) (w : World), Sta w S G R A RT GT E k k g → Calls Tryz.prog 43 #[.pointer (some ⟨S, 0, none⟩), .int .i64 n] w fun e w' => e = .returned (g m) ∧ w = w') :
    Calls Tryz.prog 10 #[.slice aK k cK, .int .i64 n] w (Good w) := by
  have HG := Lib.hid hget
  have HSl := Lib.hid hsl
  clear hget hsl
  have HK := Lib.hid hK
  have HF := Lib.hid hf
  have d1 : decide ((65536 : Int) < (k : Int)) = false := decide_eq_false (by omega)
  have d2 : decide ((n : Int) < -10002) = false := decide_eq_false (by omega)
  have b0 : (n == -10000) = false := by simp; omega
  have b1 : (n == -10001) = false := by simp; omega
  have b2 : (n == -10002) = false := by simp; omega
  clear hK hf
  go_enter Tryz.func10, Tryz.ntmps10
  go_wp2_with fail
  refine (zzTableW aK k cK _ _ (by omega)).mono ?_
  rintro e w' ⟨rfl, rfl⟩
  go_wp2_with fail
  refine (cloneByte aK k cK f _ (by omega) HK.out).mono ?_
  rintro e w1 ⟨a1, c1, rfl, hu1, h1⟩
  have U1 := Lib.hid hu1
  have C1 := Lib.hid (Cells.of_blk h1)
  clear hu1 h1
  go_wp2_with fail
  refine (build a1 k c1 f _ hk HF.out C1.out).mono ?_
  rintro e w2 ⟨S, G, R, A, RT, GT, Tb, Fb, Ub, Hb, o, x, rfl, hB⟩
  obtain ⟨Kd, hKd⟩ : ∃ Kd : Nat → Nat, (fun m => (f m % 6).toNat) = Kd := ⟨_, rfl⟩
  rw [hKd] at hB
  have B2 := Lib.hid hB.fin
  have HKd := Lib.hid (show ∀ m, Kd m < 6 from fun m => by rw [← hKd]; show (f m % 6).toNat < 6; omega)
  clear hB d1 hKd
  have s2 := B2.out.st.st.at (o := 2) rfl
  have s2f := B2.out.st.st.free 2
  have hS : S < w2.heap.size := B2.out.st.st.lt
  have hSn : S ≠ w2.heap.size := by omega
  have B3 := Lib.hid (B2.out.env)
  clear B2
  go_wp2_with fail
  refine (toTable_item S _ (Kd m) (o m) (x m) _ (HKd.out m) (HG.out S G R A RT GT w2.heap.size _ _ (by exact B3.out.st))).mono ?_
  rintro e w' ⟨rfl, rfl⟩
  go_wp2_with fail
  refine (HSl.out _).mono ?_
  rintro e w' ⟨rfl, rfl⟩
  have c1 := B3.out.tb.at (tab_in hm)
  have i1 : (0 : Int) ≤ (m : Int) := by omega
  have i2 : (m : Int) < (k : Int) := by omega
  have H4 := Lib.hid (by exact B3.out.st : Sta _ S G R A RT GT w2.heap.size k k _)
  go_wp2_with fail
  refine (st_gettop S G R A RT GT w2.heap.size k k _ _ hk H4.out).mono ?_
  rintro e w' ⟨rfl, rfl⟩
  go_wp2
  go_ret
  exact ⟨rfl, (U1.out.trans B3.out.upd).below (Nat.le_refl _) (fun k h => h.elim)⟩

set_option maxHeartbeats 1600000 in
theorem wholeTable_none (aK : Option Addr) (k cK : Nat) (f : Nat → Int) (n : Int) (w : World) (hk : k ≤ 65536) (hf : ∀ j, j < k → 0 ≤ f j ∧ f j ≤ 255) (hK : Cells w aK k fun j => .int .u8 (f j)) (hn : -10000 < n)
    (hsl : ∀ w : World, Calls Tryz.prog 25 #[.int .i64 n, .int .i64 k] w fun e w' => e = .returned (.int .i64 (-1)) ∧ w = w')
    (hto : ∀ (S G R A RT GT E : Nat) (g : Nat → Value) (w : World), Sta w S G R A RT GT E k k g → Calls Tryz.prog 19 #[.pointer (some ⟨S, 0, none⟩), .int .i64 n] w fun e w' => e = .returned (.pointer none) ∧ w = w') :
    Calls Tryz.prog 10 #[.slice aK k cK, .int .i64 n] w (Good w) := by
  have HG := Lib.hid hto
  have HSl := Lib.hid hsl
  clear hto hsl
  have HK := Lib.hid hK
  have HF := Lib.hid hf
  have d1 : decide ((65536 : Int) < (k : Int)) = false := decide_eq_false (by omega)
  have d2 : decide ((n : Int) < -10002) = false := decide_eq_false (by omega)
  have b0 : (n == -10000) = false := by simp; omega
  have b1 : (n == -10001) = false := by simp; omega
  have b2 : (n == -10002) = false := by simp; omega
  clear hK hf
  go_enter Tryz.func10, Tryz.ntmps10
  go_wp2_with fail
  refine (zzTableW aK k cK _ _ (by omega)).mono ?_
  rintro e w' ⟨rfl, rfl⟩
  go_wp2_with fail
  refine (cloneByte aK k cK f _ (by omega) HK.out).mono ?_
  rintro e w1 ⟨a1, c1, rfl, hu1, h1⟩
  have U1 := Lib.hid hu1
  have C1 := Lib.hid (Cells.of_blk h1)
  clear hu1 h1
  go_wp2_with fail
  refine (build a1 k c1 f _ hk HF.out C1.out).mono ?_
  rintro e w2 ⟨S, G, R, A, RT, GT, Tb, Fb, Ub, Hb, o, x, rfl, hB⟩
  obtain ⟨Kd, hKd⟩ : ∃ Kd : Nat → Nat, (fun m => (f m % 6).toNat) = Kd := ⟨_, rfl⟩
  rw [hKd] at hB
  have B2 := Lib.hid hB.fin
  have HKd := Lib.hid (show ∀ m, Kd m < 6 from fun m => by rw [← hKd]; show (f m % 6).toNat < 6; omega)
  clear hB d1 hKd
  have s2 := B2.out.st.st.at (o := 2) rfl
  have s2f := B2.out.st.st.free 2
  have hS : S < w2.heap.size := B2.out.st.st.lt
  have hSn : S ≠ w2.heap.size := by omega
  have B3 := Lib.hid (B2.out.env)
  clear B2
  go_wp2_with fail
  refine (HG.out S G R A RT GT w2.heap.size _ _ (by exact B3.out.st)).mono ?_
  rintro e w' ⟨rfl, rfl⟩
  go_wp2_with fail
  refine (HSl.out _).mono ?_
  rintro e w' ⟨rfl, rfl⟩
  have H4 := Lib.hid (by exact B3.out.st : Sta _ S G R A RT GT w2.heap.size k k _)
  go_wp2_with fail
  refine (st_gettop S G R A RT GT w2.heap.size k k _ _ hk H4.out).mono ?_
  rintro e w' ⟨rfl, rfl⟩
  go_wp2
  go_ret
  exact ⟨rfl, (U1.out.trans B3.out.upd).below (Nat.le_refl _) (fun k h => h.elim)⟩

set_option maxHeartbeats 1600000 in
theorem wholeTable_registry (aK : Option Addr) (k cK : Nat) (f : Nat → Int) (w : World) (hk : k ≤ 65536) (hf : ∀ j, j < k → 0 ≤ f j ∧ f j ≤ 255) (hK : Cells w aK k fun j => .int .u8 (f j)) :
    Calls Tryz.prog 10 #[.slice aK k cK, .int .i64 (-10000)] w (Good w) := by
  have HK := Lib.hid hK
  have HF := Lib.hid hf
  have d1 : decide ((65536 : Int) < (k : Int)) = false := decide_eq_false (by omega)
  clear hK hf
  go_enter Tryz.func10, Tryz.ntmps10
  go_wp2_with fail
  refine (zzTableW aK k cK _ _ (by omega)).mono ?_
  rintro e w' ⟨rfl, rfl⟩
  go_wp2_with fail
  refine (cloneByte aK k cK f _ (by omega) HK.out).mono ?_
  rintro e w1 ⟨a1, c1, rfl, hu1, h1⟩
  have U1 := Lib.hid hu1
  have C1 := Lib.hid (Cells.of_blk h1)
  clear hu1 h1
  go_wp2_with fail
  refine (build a1 k c1 f _ hk HF.out C1.out).mono ?_
  rintro e w2 ⟨S, G, R, A, RT, GT, Tb, Fb, Ub, Hb, o, x, rfl, hB⟩
  obtain ⟨Kd, hKd⟩ : ∃ Kd : Nat → Nat, (fun m => (f m % 6).toNat) = Kd := ⟨_, rfl⟩
  rw [hKd] at hB
  have B2 := Lib.hid hB.fin
  have HKd := Lib.hid (show ∀ m, Kd m < 6 from fun m => by rw [← hKd]; show (f m % 6).toNat < 6; omega)
  clear hB d1 hKd
  have s2 := B2.out.st.st.at (o := 2) rfl
  have s2f := B2.out.st.st.free 2
  have hS : S < w2.heap.size := B2.out.st.st.lt
  have hSn : S ≠ w2.heap.size := by omega
  have B3 := Lib.hid (B2.out.env)
  clear B2
  go_wp2_with fail
  refine (toTable_tab S _ (some ⟨RT, 0, none⟩) _ (get_registry S G R A RT GT w2.heap.size k _ _ (by exact B3.out.st))).mono ?_
  rintro e w' ⟨rfl, rfl⟩
  have q0 := B3.out.st.st.at (o := 0) rfl
  have q1 := B3.out.st.g.at (o := 2) rfl
  have H4 := Lib.hid (by exact B3.out.st : Sta _ S G R A RT GT w2.heap.size k k _)
  go_wp2_with fail
  refine (st_gettop S G R A RT GT w2.heap.size k k _ _ hk H4.out).mono ?_
  rintro e w' ⟨rfl, rfl⟩
  go_wp2
  go_ret
  exact ⟨rfl, (U1.out.trans B3.out.upd).below (Nat.le_refl _) (fun k h => h.elim)⟩

set_option maxHeartbeats 1600000 in
theorem wholeTable_globals (aK : Option Addr) (k cK : Nat) (f : Nat → Int) (w : World) (hk : k ≤ 65536) (hf : ∀ j, j < k → 0 ≤ f j ∧ f j ≤ 255) (hK : Cells w aK k fun j => .int .u8 (f j)) :
    Calls Tryz.prog 10 #[.slice aK k cK, .int .i64 (-10002)] w (Good w) := by
  have HK := Lib.hid hK
  have HF := Lib.hid hf
  have d1 : decide ((65536 : Int) < (k : Int)) = false := decide_eq_false (by omega)
  clear hK hf
  go_enter Tryz.func10, Tryz.ntmps10
  go_wp2_with fail
  refine (zzTableW aK k cK _ _ (by omega)).mono ?_
  rintro e w' ⟨rfl, rfl⟩
  go_wp2_with fail
  refine (cloneByte aK k cK f _ (by omega) HK.out).mono ?_
  rintro e w1 ⟨a1, c1, rfl, hu1, h1⟩
  have U1 := Lib.hid hu1
  have C1 := Lib.hid (Cells.of_blk h1)
  clear hu1 h1
  go_wp2_with fail
  refine (build a1 k c1 f _ hk HF.out C1.out).mono ?_
  rintro e w2 ⟨S, G, R, A, RT, GT, Tb, Fb, Ub, Hb, o, x, rfl, hB⟩
  obtain ⟨Kd, hKd⟩ : ∃ Kd : Nat → Nat, (fun m => (f m % 6).toNat) = Kd := ⟨_, rfl⟩
  rw [hKd] at hB
  have B2 := Lib.hid hB.fin
  have HKd := Lib.hid (show ∀ m, Kd m < 6 from fun m => by rw [← hKd]; show (f m % 6).toNat < 6; omega)
  clear hB d1 hKd
  have s2 := B2.out.st.st.at (o := 2) rfl
  have s2f := B2.out.st.st.free 2
  have hS : S < w2.heap.size := B2.out.st.st.lt
  have hSn : S ≠ w2.heap.size := by omega
  have B3 := Lib.hid (B2.out.env)
  clear B2
  go_wp2_with fail
  refine (toTable_tab S _ (some ⟨GT, 0, none⟩) _ (get_globals S G R A RT GT w2.heap.size k _ _ (by exact B3.out.st))).mono ?_
  rintro e w' ⟨rfl, rfl⟩
  have q0 := B3.out.st.st.at (o := 0) rfl
  have q1 := B3.out.st.g.at (o := 3) rfl
  have H4 := Lib.hid (by exact B3.out.st : Sta _ S G R A RT GT w2.heap.size k k _)
  go_wp2_with fail
  refine (st_gettop S G R A RT GT w2.heap.size k k _ _ hk H4.out).mono ?_
  rintro e w' ⟨rfl, rfl⟩
  go_wp2
  go_ret
  exact ⟨rfl, (U1.out.trans B3.out.upd).below (Nat.le_refl _) (fun k h => h.elim)⟩

set_option maxHeartbeats 1600000 in
theorem wholeTable_environ (aK : Option Addr) (k cK : Nat) (f : Nat → Int) (w : World) (hk : k ≤ 65536) (hf : ∀ j, j < k → 0 ≤ f j ∧ f j ≤ 255) (hK : Cells w aK k fun j => .int .u8 (f j)) :
    Calls Tryz.prog 10 #[.slice aK k cK, .int .i64 (-10001)] w (Good w) := by
  have HK := Lib.hid hK
  have HF := Lib.hid hf
  have d1 : decide ((65536 : Int) < (k : Int)) = false := decide_eq_false (by omega)
  clear hK hf
  go_enter Tryz.func10, Tryz.ntmps10
  go_wp2_with fail
  refine (zzTableW aK k cK _ _ (by omega)).mono ?_
  rintro e w' ⟨rfl, rfl⟩
  go_wp2_with fail
  refine (cloneByte aK k cK f _ (by omega) HK.out).mono ?_
  rintro e w1 ⟨a1, c1, rfl, hu1, h1⟩
  have U1 := Lib.hid hu1
  have C1 := Lib.hid (Cells.of_blk h1)
  clear hu1 h1
  go_wp2_with fail
  refine (build a1 k c1 f _ hk HF.out C1.out).mono ?_
  rintro e w2 ⟨S, G, R, A, RT, GT, Tb, Fb, Ub, Hb, o, x, rfl, hB⟩
  obtain ⟨Kd, hKd⟩ : ∃ Kd : Nat → Nat, (fun m => (f m % 6).toNat) = Kd := ⟨_, rfl⟩
  rw [hKd] at hB
  have B2 := Lib.hid hB.fin
  have HKd := Lib.hid (show ∀ m, Kd m < 6 from fun m => by rw [← hKd]; show (f m % 6).toNat < 6; omega)
  clear hB d1 hKd
  have s2 := B2.out.st.st.at (o := 2) rfl
  have s2f := B2.out.st.st.free 2
  have hS : S < w2.heap.size := B2.out.st.st.lt
  have hSn : S ≠ w2.heap.size := by omega
  have B3 := Lib.hid (B2.out.env)
  clear B2
  go_wp2_with fail
  refine (toTable_tab S _ (some ⟨w2.heap.size, 0, none⟩) _ (get_environ S G R A RT GT w2.heap.size k _ _ (by exact B3.out.st))).mono ?_
  rintro e w' ⟨rfl, rfl⟩
  have H4 := Lib.hid (by exact B3.out.st : Sta _ S G R A RT GT w2.heap.size k k _)
  go_wp2_with fail
  refine (st_gettop S G R A RT GT w2.heap.size k k _ _ hk H4.out).mono ?_
  rintro e w' ⟨rfl, rfl⟩
  go_wp2
  go_ret
  exact ⟨rfl, (U1.out.trans B3.out.upd).below (Nat.le_refl _) (fun k h => h.elim)⟩

set_option maxHeartbeats 400000 in
theorem wholeTable_early (aK : Option Addr) (k cK : Nat) (n : Int) (w : World) (hk : k ≤ 65536) (hn : n < -10002) :
    Calls Tryz.prog 10 #[.slice aK k cK, .int .i64 n] w (Good w) := by
  have d1 : decide ((65536 : Int) < (k : Int)) = false := decide_eq_false (by omega)
  have d2 : decide ((n : Int) < -10002) = true := decide_eq_true (by omega)
  have hz := zzTableW aK k cK n w hk
  clear hn hk
  go_enter Tryz.func10, Tryz.ntmps10
  go_wp2_with fail
  refine hz.mono ?_
  rintro e w' ⟨rfl, rfl⟩
  go_wp2
  go_ret
  exact ⟨rfl, Below.refl _ _⟩

set_option maxHeartbeats 400000 in
theorem wholeTable_long (aK : Option Addr) (k cK : Nat) (n : Int) (w : World) (hkm : k ≤ 9223372036854775807) (hk : ¬ k ≤ 65536) :
    Calls Tryz.prog 10 #[.slice aK k cK, .int .i64 n] w (Good w) := by
  have d1 : decide ((65536 : Int) < (k : Int)) = true := decide_eq_true (by omega)
  have hz := zzTableW_any aK k cK n w hkm
  clear hkm hk
  go_enter Tryz.func10, Tryz.ntmps10
  go_wp2_with fail
  refine hz.mono ?_
  rintro e w' ⟨b, rfl, rfl⟩
  cases b
  all_goals
    go_wp2
    go_ret
    exact ⟨rfl, Below.refl _ _⟩

theorem wholeTable (aK : Option Addr) (k cK : Nat) (f : Nat → Int) (n : Int) (w : World) (hkm : k ≤ 9223372036854775807) (hn1 : -9223372036854775808 ≤ n) (hn2 : n ≤ 9223372036854775807) (hf : ∀ j, j < k → 0 ≤ f j ∧ f j ≤ 255) (hK : Cells w aK k fun j => .int .u8 (f j)) :
    Calls Tryz.prog 10 #[.slice aK k cK, .int .i64 n] w (Good w) := by
  by_cases hk : k ≤ 65536
  · by_cases h0 : n < -10002
    · exact wholeTable_early aK k cK n w hk h0
    · by_cases h1 : 1 ≤ n ∧ n ≤ (k : Int)
      · obtain ⟨m, rfl⟩ : ∃ m : Nat, n = (m : Int) + 1 := ⟨(n - 1).toNat, by omega⟩
        exact wholeTable_in aK k cK f _ m w hk hf hK (by omega) (by omega) (fun w => slot_at k m w hk (by omega)) (fun S G R A RT GT E g w h => get_at S G R A RT GT E k m g w (by omega) hk h)
      · by_cases h2 : -10000 < n ∧ n < 0 ∧ -(k : Int) ≤ n
        · obtain ⟨m, rfl⟩ : ∃ m : Nat, n = (m : Int) - (k : Int) := ⟨(n + k).toNat, by omega⟩
          exact wholeTable_in aK k cK f _ m w hk hf hK (by omega) (by omega) (fun w => slot_neg k m w hk (by omega) (by omega)) (fun S G R A RT GT E g w h => get_neg S G R A RT GT E k m g w (by omega) (by omega) hk h)
        · have hs : ∀ w : World, Calls Tryz.prog 25 #[.int .i64 n, .int .i64 k] w fun e w' => e = .returned (.int .i64 (-1)) ∧ w = w' := fun w => slot_none k n w (by omega) hn2 (by omega)
          by_cases hregistry : n = -10000
          · subst hregistry
            exact wholeTable_registry aK k cK f w hk hf hK
          by_cases henviron : n = -10001
          · subst henviron
            exact wholeTable_environ aK k cK f w hk hf hK
          by_cases hglobals : n = -10002
          · subst hglobals
            exact wholeTable_globals aK k cK f w hk hf hK
          refine wholeTable_none aK k cK f n w hk hf hK (by omega) hs (fun S G R A RT GT E g w h => ?_)
          by_cases hz : n = 0
          · subst hz
            exact toTable_nil S _ w (get_zero S G R A RT GT E k g w h)
          · by_cases hp : (k : Int) < n
            · exact toTable_nil S _ w (get_past S G R A RT GT E k n g w hp hn2 hk h)
            · exact toTable_nil S _ w (get_below S G R A RT GT E k n g w (by omega) (by omega) hk h)
  · exact wholeTable_long aK k cK n w hkm hk

end Go.Proofs.YtejhfhcndpehiaaGreatFmt
