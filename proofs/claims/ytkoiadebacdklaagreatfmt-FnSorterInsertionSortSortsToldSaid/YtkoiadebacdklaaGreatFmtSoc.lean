/- FnSorterInsertionSortSorts: the walk. -/
import Derived.Test.YtkoiadebacdklaaGreatFmtSob
namespace Go.Proofs.YtkoiadebacdklaaGreatFmt
open Go.RowKit
set_option maxRecDepth 100000

/-- The array behind the sort. -/
def sorted (f : Nat → Nat) (k : Nat) : Nat → Nat := Srt.st flt f (k - 1)

set_option maxHeartbeats 400000 in
theorem guard_sort (a : Option Addr) (n c : Nat) (w : World) (h0 : n ≤ 9223372036854775807) : Calls Tryz.prog 39 #[.slice a n c] w (SomeBool w) := by
  by_cases h : n ≤ 1048576
  · go_enter Tryz.func39, Tryz.ntmps39
    go_wp2
    go_ret
    exact ⟨_, rfl, rfl⟩
  · go_enter Tryz.func39, Tryz.ntmps39
    go_wp2
    go_ret
    exact ⟨_, rfl, rfl⟩

set_option maxHeartbeats 400000 in
theorem same_f (a : Nat) (w : World) (ha : (FloatKind.f64.format.order a a == some .eq) = true) : Calls Tryz.prog 46 #[.float .f64 a, .float .f64 a] w fun e w' => e = .returned (.bool true) ∧ w = w' := by
  have hna : (FloatKind.f64.format.order a a != some .eq) = false := by simpa [bne] using ha
  by_cases h : (FloatKind.f64.format.order a 0 == some .eq) = true
  · obtain ⟨r, hr⟩ := one_quo a h
    have hop : ∀ t w, (binOp .quo t (.float .f64 4607182418800017408) (.float .f64 a)).run Tryz.prog w = .ok (.float .f64 r) w := fun t w => run_float_arith w .quo t .f64 _ a r hr
    go_enter Tryz.func46, Tryz.ntmps46
    go_wp2_with (simp only [hop])
    all_goals
      go_ret
      exact ⟨by simp, rfl⟩
  · go_enter Tryz.func46, Tryz.ntmps46
    go_wp2
    go_ret
    exact ⟨rfl, rfl⟩

set_option maxHeartbeats 3200000 in
theorem sort_in (a : Option Addr) (k c : Nat) (f : Nat → Nat) (w : World) (hk : k ≤ 512) (hc : Cells w a k fun j => Value.float .f64 (f j)) :
    Calls Tryz.prog 8 #[.slice a k c] w (Good w) := by
  have HC := Lib.hid hc
  clear hc
  go_enter Tryz.func8, Tryz.ntmps8
  go_wp2_with fail
  refine (guard_sort a k c _ (by omega)).mono ?_
  rintro e w' ⟨b, rfl, rfl⟩
  cases b with
  | false =>
    go_wp2
    go_ret
    exact ⟨rfl, Below.refl _ _⟩
  | true =>
    go_wp2_with fail
    go_loopw [3] (fun i wr => ∃ j : Nat, j ≤ k ∧ i = .int .i64 j ∧ Upd (fun _ => False) w wr ∧ ∀ m, m < j → (FloatKind.f64.format.order (f m) (f m) == some .eq) = true) (fun i _ => k - (intOf i).toNat)
    case atStart => exact ⟨0, Nat.zero_le _, rfl, Upd.refl _ _, fun m hm => absurd hm (by omega)⟩
    case round =>
      obtain ⟨j, hj, rfl, hu, hnn⟩ := hrel
      have HU := Lib.hid hu
      have HNN := Lib.hid hnn
      clear hu hnn
      by_cases hlt : j < k
      · obtain ⟨b, off, rfl, hcell⟩ := (HC.out.upd HU.out).one hlt
        by_cases hnan : (FloatKind.f64.format.order (f j) (f j) == some .eq) = true
        · have hna : (FloatKind.f64.format.order (f j) (f j) != some .eq) = false := by simpa [bne] using hnan
          go_wp2
          go_quiet (fail)
          go_wp2
          go_roundw
          case rel =>
            refine ⟨j + 1, by omega, by go_num, HU.out.drewN _, fun m hm => ?_⟩
            by_cases e : m = j
            · subst e; exact hnan
            · exact HNN.out m (by omega)
          case measure => simp [intOf]; omega
        · have hna : (FloatKind.f64.format.order (f j) (f j) != some .eq) = true := by simpa [bne] using hnan
          go_wp2
          go_quiet (fail)
          go_wp2
          go_ret
          exact ⟨rfl, (HU.out.drewN _).below (Nat.le_refl _) (fun _ h => h.elim)⟩
      · obtain rfl : j = k := by omega
        go_wp2_with fail
        refine (cloneFlo a j c f _ (by omega) (HC.out.upd HU.out)).mono ?_
        rintro e w1 ⟨a1, c1, rfl, hu1, h1⟩
        have U1 := Lib.hid (HU.out.trans hu1)
        have H1 := Lib.hid (Held.of_new h1)
        clear hu1 h1 HU HC
        go_wp2_with fail
        refine (new_sorter a1 j c1 f _ hk H1.out.cells).mono ?_
        rintro e w2 ⟨V, rfl, hu2, hV, hb2⟩
        have U2 := Lib.hid (U1.out.trans hu2)
        have H2 := Lib.hid (H1.out.upd hu2 (fun _ h => h.elim))
        have hwV : w.heap.size ≤ V := Nat.le_trans U1.out.size hV
        have B2 := Lib.hid hb2
        have SV := Lib.hid hV
        clear hu2 hV hb2 U1 H1
        unfold srt
        go_wp2_with fail
        have hbd := Blk.new w2 (srt V j) 90
        have hua := (Upd.refl (fun _ => False) w2).alloc (.cells (srt V j).toArray 90)
        have hVD := B2.out.lt
        have hB1 : w1.heap.size ≤ V := SV.out
        refine (sort_len V j _).mono ?_
        rintro e w3 ⟨rfl, hu3⟩
        obtain ⟨D, hD⟩ : ∃ D, w2.heap.size = D := ⟨_, rfl⟩
        rw [hD] at hbd hVD
        rw [hD]
        have hnVD : V ≠ D := by omega
        have BD := Lib.hid (hu3.blk hbd (fun h => h))
        have U3 := Lib.hid (U2.out.trans (hua.trans hu3))
        have H3 := Lib.hid (H2.out.upd (hua.trans hu3) (fun _ h => h.elim))
        have B3 := Lib.hid (hu3.blk (hua.blk B2.out (fun h => h)) (fun h => h))
        clear hu3 hbd hua U2 H2 B2 hD hVD
        go_wp2_with fail
        go_loopw [6] (fun i wr => ∃ q : Nat, q ≤ j - 1 ∧ i = .int .i64 ((q : Int) + 1) ∧ Upd (fun c => c = V) w3 wr ∧ Blk wr V (tab j fun m => nv (Srt.st flt f q m)) 101) (fun i _ => j - (intOf i).toNat)
        case atStart => exact ⟨0, Nat.zero_le _, rfl, Upd.refl _ _, B3.out⟩
        case round =>
          obtain ⟨q, hq, rfl, hu4, hb4⟩ := hrel
          have U4 := Lib.hid hu4
          have B4 := Lib.hid hb4
          clear hu4 hb4 B3
          by_cases hlt : q + 1 < j
          · obtain ⟨g, hg⟩ : ∃ g, Srt.st flt f q = g := ⟨_, rfl⟩
            rw [hg] at B4
            have hnext : Srt.st flt f (q + 1) = Srt.gap g (g (q + 1)) (q + 1) (Srt.pos flt g (g (q + 1)) (q + 1)) := by show Srt.step flt (Srt.st flt f q) (q + 1) = _; rw [hg]; rfl
            obtain ⟨v, hv⟩ : ∃ v, g (q + 1) = v := ⟨_, rfl⟩
            have htop : Srt.gap g v (q + 1) (q + 1) = g := by rw [← hv]; exact Srt.gap_top g (q + 1)
            rw [hv] at hnext
            have NX := Lib.hid hnext
            have TOP := Lib.hid htop
            obtain ⟨wo, rfl⟩ : ∃ wo : World, wo = wr := ⟨_, rfl⟩
            have d1 : decide ((q : Int) + 1 < (j : Int)) = true := decide_eq_true (by omega)
            clear hnext htop hg hv
            go_wp2_with fail
            go_loopw [7] (fun i wq => ∃ b : Nat, b ≤ q + 1 ∧ i = .int .i64 b ∧ Upd (fun c => c = V) w3 wq ∧ Blk wq V (tab j fun m => nv (Srt.gap g v (q + 1) b m)) 101 ∧ Srt.pos flt g v (q + 1) = Srt.pos flt g v b) (fun i _ => (intOf i).toNat)
            case atStart => exact ⟨q + 1, Nat.le_refl _, by go_num, U4.out, by rw [TOP.out]; exact B4.out, rfl⟩
            case round =>
              obtain ⟨b, hb, rfl, hu5, hb5, hp5⟩ := hrel
              have U5 := Lib.hid hu5
              have B5 := Lib.hid hb5
              have P5 := Lib.hid hp5
              have bd := U5.out.blk BD.out (fun h => hnVD h.symm)
              have q0 := bd.at (o := 0) rfl
              have q1 := bd.at (o := 1) rfl
              have q2 := bd.at (o := 2) rfl
              clear hu5 hb5 hp5 bd
              rcases Nat.eq_zero_or_pos b with rfl | hb0
              · go_wp2
                go_roundw
                case rel => exact ⟨q + 1, by omega, by go_num, U5.out, by rw [NX.out, P5.out]; exact B5.out⟩
                case measure => simp [intOf]; omega
              · obtain ⟨p, rfl⟩ : ∃ p, b = p + 1 := ⟨b - 1, by omega⟩
                have hw1 : IntKind.i64.wrap ((p : Int) + 1 - 1) = (p : Int) := by rw [IntWalk.i64_in _ (by omega)]; omega
                have hless := less_down V j p (Srt.gap g v (q + 1) (p + 1)) wr (by omega) B5.out
                rw [show flt (Srt.gap g v (q + 1) (p + 1) (p + 1)) (Srt.gap g v (q + 1) (p + 1) p) = flt v (g p) by rw [Srt.gap_at, Srt.gap_low _ _ _ _ _ (by omega)]] at hless
                by_cases hv : flt v (g p) = true
                · rw [hv] at hless
                  go_wp2_with fail
                  refine hless.mono ?_
                  rintro e w6 ⟨rfl, hu6⟩
                  have hb6 := hu6.blk B5.out (fun h => h)
                  have U6 := Lib.hid (U5.out.trans (hu6.mono (fun _ _ h => h.elim)))
                  have bd := U6.out.blk BD.out (fun h => hnVD h.symm)
                  have q0 := bd.at (o := 0) rfl
                  have q1 := bd.at (o := 1) rfl
                  have q2 := bd.at (o := 2) rfl
                  have hswap := swap_down V j p (Srt.gap g v (q + 1) (p + 1)) w6 (by omega) hb6
                  have B6 := Lib.hid hb6
                  have HV := Lib.hid hv
                  clear hu6 hb6 bd hless hv
                  go_wp2_with fail
                  refine hswap.mono ?_
                  rintro e w7 ⟨rfl, hu7, hb7⟩
                  have U7 := Lib.hid (U6.out.trans hu7)
                  have B7 := Lib.hid (show Blk w7 V (tab j fun m => nv (Srt.gap g v (q + 1) p m)) 101 by
                    rw [tab_congr (g := fun m => nv (if m = p then Srt.gap g v (q + 1) (p + 1) (p + 1) else if m = p + 1 then Srt.gap g v (q + 1) (p + 1) p else Srt.gap g v (q + 1) (p + 1) m)) (fun m _ => by rw [← Srt.gap_swap g v (q + 1) p (by omega)])]
                    exact hb7)
                  clear hu7 hb7 hswap
                  go_wp2
                  go_roundw
                  case rel => exact ⟨p, by omega, by go_num, U7.out, B7.out, by rw [P5.out]; exact Srt.pos_down flt HV.out⟩
                  case measure => simp [intOf]
                · have hvf : flt v (g p) = false := by simpa using hv
                  rw [hvf] at hless
                  go_wp2_with fail
                  refine hless.mono ?_
                  rintro e w6 ⟨rfl, hu6⟩
                  have U6 := Lib.hid (U5.out.trans (hu6.mono (fun _ _ h => h.elim)))
                  have B6 := Lib.hid (hu6.blk B5.out (fun h => h))
                  have HV := Lib.hid hvf
                  clear hu6 hless hv hvf
                  go_wp2
                  go_roundw
                  case rel => exact ⟨q + 1, by omega, by go_num, U6.out, by rw [NX.out, P5.out, Srt.pos_stop flt HV.out]; exact B6.out⟩
                  case measure => simp [intOf]; omega
          · have hqj : (j : Int) ≤ (q : Int) + 1 := by omega
            have hq1 : q = j - 1 := by omega
            obtain ⟨g, hg⟩ : ∃ g, Srt.st flt f q = g := ⟨_, rfl⟩
            rw [hg] at B4
            have G := Lib.hid hg
            have bd := U4.out.blk BD.out (fun h => hnVD h.symm)
            have q0 := bd.at (o := 0) rfl
            have q1 := bd.at (o := 1) rfl
            have q2 := bd.at (o := 2) rfl
            have U4w := Lib.hid (U3.out.trans_new U4.out (fun c h => by have h : c = V := h; omega))
            have H4 := Lib.hid (H3.out.upd U4.out (fun c h => by have h : c = V := h; omega))
            have hmk := mkFlos j (by omega)
            obtain ⟨wo, rfl⟩ : ∃ wo : World, wo = wr := ⟨_, rfl⟩
            clear hg bd hlt
            go_wp2_with fail
            refine (sorter_nums V j g _ hk B4.out).mono ?_
            rintro e w5 ⟨O, rfl, hu5, hO, hb5⟩
            have U5 := Lib.hid (U4w.out.trans hu5)
            have H5 := Lib.hid (H4.out.upd hu5 (fun _ h => h.elim))
            have BO := Lib.hid hb5
            have SO := Lib.hid (show w1.heap.size ≤ O by have := B4.out.lt; omega)
            clear hu5 hO hb5 U4 U4w H4 q0 q1 q2 H3 U3 B4
            go_wp2_with fail
            obtain ⟨M, hM⟩ : ∃ M, w5.heap.size = M := ⟨_, rfl⟩
            rw [hM]
            have hMO : O < M := by have := BO.out.lt; omega
            have MM := Lib.hid hM
            clear hM hmk
            go_loopw [10] (fun i wr => ∃ n : Nat, n ≤ j ∧ i = .int .i64 n ∧ Upd (fun _ => False) w5 wr ∧ Blk wr M (tab j fun m => if m < n then Value.float .f64 (f m) else .float .f64 0) 87) (fun i _ => j - (intOf i).toNat)
            case atStart => exact ⟨0, Nat.zero_le _, rfl, (Upd.refl _ _).alloc _, Blk.new_at MM.out.symm _ _⟩
            case round =>
              obtain ⟨n, hn, rfl, hu6, hb6⟩ := hrel
              have U6 := Lib.hid hu6
              have B6 := Lib.hid hb6
              clear hu6 hb6
              by_cases hnj : n < j
              · obtain ⟨b1, off1, rfl, hbl1, hc1⟩ := (H5.out.upd U6.out (fun c h => h.elim)) n hnj
                have h2 : wr.cell? ⟨M, n, none⟩ = some (Value.float .f64 0) := B6.out.at (by rw [tab_in hnj, if_neg (by omega)])
                have h3 := B6.out.free n
                have i1 : (0 : Int) ≤ (n : Int) := by omega
                have i2 : (n : Int) < (j : Int) := by omega
                clear hbl1
                go_wp2
                go_roundw
                case rel =>
                  refine ⟨n + 1, by omega, by go_num, U6.out.setCell ⟨M, n, none⟩ _ (.inr (Nat.le_of_eq MM.out)), ?_⟩
                  rw [fill_step]
                  have := B6.out.set n (Value.float .f64 (f n))
                  rw [tab_set] at this
                  exact this
                case measure => simp [intOf]; omega
              · obtain rfl : n = j := by omega
                have B7 := Lib.hid (show Blk wr M (tab n fun m => Value.float .f64 (f m)) 87 by have h := B6.out; rw [fill_all] at h; exact h)
                obtain ⟨w7, rfl⟩ : ∃ w7 : World, w7 = wr := ⟨_, rfl⟩
                clear B6 H5
                go_wp2_with fail
                go_loopw [11] (fun i wr => ∃ y : Nat, y ≤ n - 1 ∧ i = .int .i64 ((y : Int) + 1) ∧ Upd (fun _ => False) w5 wr ∧ Blk wr M (tab n fun m => Value.float .f64 (Srt.st flt f y m)) 87) (fun i _ => n - (intOf i).toNat)
                case atStart => exact ⟨0, Nat.zero_le _, rfl, U6.out, B7.out⟩
                case round =>
                  obtain ⟨y, hy, rfl, hu8, hb8⟩ := hrel
                  have U8 := Lib.hid hu8
                  have B8 := Lib.hid hb8
                  clear hu8 hb8 B7 U6
                  by_cases hlt : y + 1 < n
                  · obtain ⟨g2, hg⟩ : ∃ g2, Srt.st flt f y = g2 := ⟨_, rfl⟩
                    rw [hg] at B8
                    have hnext : Srt.st flt f (y + 1) = Srt.gap g2 (g2 (y + 1)) (y + 1) (Srt.pos flt g2 (g2 (y + 1)) (y + 1)) := by show Srt.step flt (Srt.st flt f y) (y + 1) = _; rw [hg]; rfl
                    have c1 := B8.out.at (tab_in hlt)
                    obtain ⟨v, hv⟩ : ∃ v, g2 (y + 1) = v := ⟨_, rfl⟩
                    rw [hv] at hnext c1
                    have NX := Lib.hid hnext
                    have TOP := Lib.hid (Srt.hole_top g2 (y + 1))
                    have i1 : (0 : Int) ≤ (y : Int) + 1 := by omega
                    have i2 : (y : Int) + 1 < (n : Int) := by omega
                    obtain ⟨wo, rfl⟩ : ∃ wo : World, wo = wr := ⟨_, rfl⟩
                    clear hnext hg hv
                    have d1 : decide ((y : Int) + 1 < (n : Int)) = true := decide_eq_true (by omega)
                    go_wp2_with fail
                    go_loopw [13] (fun i wq => ∃ b : Nat, b ≤ y + 1 ∧ i = .int .i64 b ∧ Upd (fun _ => False) w5 wq ∧ Blk wq M (tab n fun m => Value.float .f64 (Srt.hole g2 (y + 1) b m)) 87 ∧ Srt.pos flt g2 v (y + 1) = Srt.pos flt g2 v b) (fun i _ => (intOf i).toNat)
                    case atStart => exact ⟨y + 1, Nat.le_refl _, by go_num, U8.out, by rw [TOP.out]; exact B8.out, rfl⟩
                    case round =>
                      obtain ⟨b, hb, rfl, hu9, hb9, hp9⟩ := hrel
                      have U9 := Lib.hid hu9
                      have B9 := Lib.hid hb9
                      have P9 := Lib.hid hp9
                      have fz := B9.out.free b
                      clear hu9 hb9 hp9
                      rcases Nat.eq_zero_or_pos b with rfl | hb0
                      · have c0 := B9.out.at (tab_in (show 0 < n by omega))
                        have i3 : (0 : Int) < (n : Int) := by omega
                        go_wp2
                        go_roundw
                        case rel =>
                          refine ⟨y + 1, by omega, by go_num, U9.out.setCell ⟨M, 0, none⟩ _ (.inr (Nat.le_of_eq MM.out)), ?_⟩
                          have h := B9.out.set 0 (.float .f64 v)
                          rw [tab_set] at h
                          rw [NX.out, P9.out]
                          rw [tab_congr (g := fun m => if m = 0 then Value.float .f64 v else .float .f64 (Srt.hole g2 (y + 1) 0 m)) (fun m _ => by
                            show Value.float .f64 (Srt.gap g2 v (y + 1) 0 m) = _
                            rw [← Srt.hole_put]; split <;> rfl)]
                          exact h
                        case measure => simp [intOf]; omega
                      · obtain ⟨p, rfl⟩ : ∃ p, b = p + 1 := ⟨b - 1, by omega⟩
                        have hw1 : IntKind.i64.wrap ((p : Int) + 1 - 1) = (p : Int) := by rw [IntWalk.i64_in _ (by omega)]; omega
                        have c0 := B9.out.at (tab_in (show p < n by omega))
                        have c1 := B9.out.at (tab_in (show p + 1 < n by omega))
                        rw [Srt.hole_low _ _ _ _ (by omega)] at c0
                        have p1 : (0 : Int) ≤ (p : Int) := by omega
                        have p2 : (p : Int) < (n : Int) := by omega
                        have p3 : (0 : Int) ≤ (p : Int) + 1 := by omega
                        have p4 : (p : Int) + 1 < (n : Int) := by omega
                        by_cases hv : flt v (g2 p) = true
                        · have hvf : (FloatKind.f64.format.order v (g2 p) == some .lt) = true := hv
                          have HV := Lib.hid hv
                          clear hv
                          go_wp2
                          go_roundw
                          case rel =>
                            refine ⟨p, by omega, by go_num, U9.out.setCell ⟨M, p + 1, none⟩ _ (.inr (Nat.le_of_eq MM.out)), ?_, by rw [P9.out]; exact Srt.pos_down flt HV.out⟩
                            have h := B9.out.set (p + 1) (.float .f64 (g2 p))
                            rw [tab_set] at h
                            rw [tab_congr (g := fun m => if m = p + 1 then Value.float .f64 (g2 p) else .float .f64 (Srt.hole g2 (y + 1) (p + 1) m)) (fun m _ => by
                              show Value.float .f64 (Srt.hole g2 (y + 1) p m) = _
                              rw [Srt.hole_move g2 (y + 1) p (by omega)]; split <;> rfl)]
                            exact h
                          case measure => simp [intOf]
                        · have hvf : (FloatKind.f64.format.order v (g2 p) == some .lt) = false := by simpa [flt] using hv
                          have HV := Lib.hid (show flt v (g2 p) = false from hvf)
                          clear hv
                          go_wp2
                          go_roundw
                          case rel =>
                            refine ⟨y + 1, by omega, by go_num, U9.out.setCell ⟨M, p + 1, none⟩ _ (.inr (Nat.le_of_eq MM.out)), ?_⟩
                            have h := B9.out.set (p + 1) (.float .f64 v)
                            rw [tab_set] at h
                            rw [NX.out, P9.out, Srt.pos_stop flt HV.out]
                            rw [tab_congr (g := fun m => if m = p + 1 then Value.float .f64 v else .float .f64 (Srt.hole g2 (y + 1) (p + 1) m)) (fun m _ => by
                              show Value.float .f64 (Srt.gap g2 v (y + 1) (p + 1) m) = _
                              rw [← Srt.hole_put]; split <;> rfl)]
                            exact h
                          case measure => simp [intOf]; omega
                  · have hyn : (n : Int) ≤ (y : Int) + 1 := by omega
                    obtain rfl : y = n - 1 := by omega
                    have hG := G.out
                    rw [hq1] at hG
                    rw [hG] at B8
                    have ASC := Lib.hid (show ∀ m, m + 1 ≤ n - 1 → flt (g (m + 1)) (g m) = false from fun m hm => by
                      have := Srt.st_asc flt flt_asymm f (n - 1) m hm
                      rw [hG] at this
                      exact this)
                    have FIN := Lib.hid (show ∀ m, m < n → (FloatKind.f64.format.order (g m) (g m) == some .eq) = true from fun m hm => by
                      rw [← hG]
                      exact Srt.st_all flt (p := fun z => (FloatKind.f64.format.order z z == some .eq) = true) (fun m hm => HNN.out m hm) (n - 1) (by omega) m hm)
                    have BO8 := Lib.hid (U8.out.blk BO.out (fun h => h))
                    obtain ⟨w8, rfl⟩ : ∃ w8 : World, w8 = wr := ⟨_, rfl⟩
                    clear hG hlt
                    go_wp2_with fail
                    go_loopw [14] (fun i wr => ∃ z : Nat, z ≤ n ∧ i = .int .i64 z ∧ Upd (fun _ => False) w8 wr) (fun i _ => n - (intOf i).toNat)
                    case atStart => exact ⟨0, Nat.zero_le _, rfl, Upd.refl _ _⟩
                    case round =>
                      obtain ⟨z, hz, rfl, hu9⟩ := hrel
                      have U9 := Lib.hid hu9
                      clear hu9
                      by_cases hzn : z < n
                      · have bo := U9.out.blk BO8.out (fun h => h)
                        have bm := U9.out.blk B8.out (fun h => h)
                        have c1 := bo.at (tab_in hzn)
                        have c2 := bm.at (tab_in hzn)
                        have i1 : (0 : Int) ≤ (z : Int) := by omega
                        have i2 : (z : Int) < (n : Int) := by omega
                        have hs := FIN.out z hzn
                        rcases Nat.eq_zero_or_pos z with rfl | hz0
                        · clear bo bm
                          go_wp2
                          go_quiet ((go_at_call 46; exact Calls.quiet_of_same ((same_f (g 0) _ hs).mono (fun _ _ h => ⟨h.1, h.2.symm⟩))))
                          go_wp2
                          go_quiet (fail)
                          go_wp2
                          go_roundw
                          case rel => exact ⟨0 + 1, by omega, by go_num, U9.out.drewN _⟩
                          case measure => simp [intOf]; omega
                        · obtain ⟨p, rfl⟩ : ∃ p, z = p + 1 := ⟨z - 1, by omega⟩
                          have hw1 : IntKind.i64.wrap ((p : Int) + 1 - 1) = (p : Int) := by rw [IntWalk.i64_in _ (by omega)]; omega
                          have c3 := bo.at (tab_in (show p < n by omega))
                          have p1 : (0 : Int) ≤ (p : Int) := by omega
                          have p2 : (p : Int) < (n : Int) := by omega
                          have hlt2 : (FloatKind.f64.format.order (g (p + 1)) (g p) == some .lt) = false := ASC.out p (by omega)
                          clear bo bm
                          go_wp2
                          go_quiet ((go_at_call 46; exact Calls.quiet_of_same ((same_f (g (p + 1)) _ hs).mono (fun _ _ h => ⟨h.1, h.2.symm⟩))))
                          go_wp2
                          go_quiet (fail)
                          go_wp2
                          go_roundw
                          case rel => exact ⟨p + 1 + 1, by omega, by go_num, U9.out.drewN _⟩
                          case measure => simp [intOf]; omega
                      · obtain rfl : z = n := by omega
                        go_wp2
                        go_ret
                        exact ⟨rfl, ((U5.out.trans U8.out).trans U9.out).below (Nat.le_refl _) (fun _ h => h.elim)⟩

set_option maxHeartbeats 400000 in
theorem sort_long (a : Option Addr) (k c : Nat) (w : World) (h0 : k ≤ 9223372036854775807) (hk : ¬ k ≤ 512) :
    Calls Tryz.prog 8 #[.slice a k c] w (Good w) := by
  go_enter Tryz.func8, Tryz.ntmps8
  go_wp2_with fail
  refine (guard_sort a k c _ h0).mono ?_
  rintro e w' ⟨b, rfl, rfl⟩
  cases b with
  | false =>
    go_wp2
    go_ret
    exact ⟨rfl, Below.refl _ _⟩
  | true =>
    go_wp2
    go_ret
    exact ⟨rfl, Below.refl _ _⟩
end Go.Proofs.YtkoiadebacdklaaGreatFmt
