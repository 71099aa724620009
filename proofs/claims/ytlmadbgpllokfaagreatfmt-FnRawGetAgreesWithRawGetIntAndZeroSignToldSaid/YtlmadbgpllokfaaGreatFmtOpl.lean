/- FnRawGetLastWriteWins: walked. -/
import Derived.Test.YtlmadbgpllokfaaGreatFmtOpc
import Derived.Deep.RegionHeld3
namespace Go.Proofs.YtlmadbgpllokfaaGreatFmt
open Go.RowKit Go.Mapy Go.Tbl
set_option maxRecDepth 100000

theorem keep5 {wr W : World} {b o : Nat} {r : Rop} (h : Upd (fun _ => False) wr W) (c0 : wr.cell? ⟨b, o, none⟩ = some (.bool r.s)) (c1 : wr.cell? ⟨b, o + 1, none⟩ = some (.float .f64 r.n)) (c2 : wr.cell? ⟨b, o + 2, none⟩ = some (.string r.k)) (c3 : wr.cell? ⟨b, o + 3, none⟩ = some (.string r.v)) (c4 : wr.cell? ⟨b, o + 4, none⟩ = some (.bool r.d)) :
    Upd (fun _ => False) wr W ∧ W.cell? ⟨b, o, none⟩ = some (.bool r.s) ∧ W.cell? ⟨b, o + 1, none⟩ = some (.float .f64 r.n) ∧ W.cell? ⟨b, o + 2, none⟩ = some (.string r.k) ∧ W.cell? ⟨b, o + 3, none⟩ = some (.string r.v) ∧ W.cell? ⟨b, o + 4, none⟩ = some (.bool r.d) := by
  have key : ∀ (a : Addr) (v : Value), wr.cell? a = some v → W.cell? a = some v := fun a v hv => by
    rw [← hv]
    exact World.cell?_of_block (h.block _ (World.block_lt_of_cell? wr _ hv) (fun h => h))
  exact ⟨h, key _ _ c0, key _ _ c1, key _ _ c2, key _ _ c3, key _ _ c4⟩

/-- What is held behind the first j stores. -/
def RanO (f : Nat → Rop) (j : Nat) (S : St) : Prop := ∀ q, holds S q = ran f j q
theorem ranO_zero (f : Nat → Rop) : RanO f 0 ⟨[], [], []⟩ := fun q => look_empty _ _ _ q
theorem RanO.next {f : Nat → Rop} {j : Nat} {S S' : St} (h : RanO f j S) (hs : ∀ q, holds S' q = if keq q (f j).key then (f j).val else holds S q) : RanO f (j + 1) S' := fun q => by
  rw [hs, h q]
  rfl

set_option maxHeartbeats 3200000 in
theorem raw_in (a1 a2 : Option Addr) (n c1 q c2 : Nat) (f g : Nat → Rop) (w : World) (hn : n ≤ 4096) (hq : q ≤ 4096) (hf : Rops w w.heap.size a1 n f) (hg : Rops w w.heap.size a2 q g) :
    Calls Tryz.prog 3 #[.slice a1 n c1, .slice a2 q c2] w (Good w) := by
  have HF := Lib.hid hf
  have HG := Lib.hid hg
  clear hf hg
  go_enter Tryz.func3, Tryz.ntmps3
  go_wp2_with fail
  refine (guard_raw a1 a2 n c1 q c2 f g _ _ (by omega) (by omega) HF.out HG.out).mono ?_
  rintro e w' ⟨b, rfl, rfl, hb⟩
  have HB := Lib.hid hb
  clear hb
  cases b with
  | false =>
    go_wp2
    go_ret
    exact ⟨rfl, Below.refl _ _⟩
  | true =>
    have S1 := Lib.hid (HB.out rfl).1
    have S2 := Lib.hid (HB.out rfl).2
    clear HB
    go_wp2_with fail
    refine (ops_bytes a1 n c1 f _ _ hn S1.out HF.out).mono ?_
    rintro e w1 ⟨z1, hz1, rfl, hu1⟩
    have U1 := Lib.hid hu1
    clear hu1
    go_wp2_with fail
    refine (ops_bytes a2 q c2 g _ _ hq S2.out (HG.out.upd U1.out (fun c h => h.elim))).mono ?_
    rintro e w2 ⟨z2, hz2, rfl, hu2⟩
    have U2 := Lib.hid (U1.out.trans hu2)
    clear hu2 U1
    by_cases hsum : z1 + z2 ≤ 1048576
    case neg =>
      go_wp2
      go_ret
      exact ⟨rfl, U2.out.below (Nat.le_refl _) (fun _ h => h.elim)⟩
    go_wp2_with fail
    go_loopw [5] (fun iv wr => ∃ j : Nat, j ≤ n ∧ iv = .int .i64 j ∧ Upd (fun _ => False) w wr ∧ ∀ m, m < j → Sto (f m)) (fun iv _ => n - (intOf iv).toNat)
    case atStart => exact ⟨0, Nat.zero_le _, rfl, U2.out, fun m h => absurd h (by omega)⟩
    case round =>
      obtain ⟨j, hj, rfl, hu, hs⟩ := hrel
      have HU := Lib.hid hu
      have HS := Lib.hid hs
      clear hu hs
      by_cases hlt : j < n
      · obtain ⟨b, off, rfl, hr, -⟩ := (HF.out.upd HU.out (fun c h => h.elim)).row hlt
        have HR := Lib.hid hr
        have i1 : (0 : Int) ≤ (j : Int) := by omega
        have i2 : (j : Int) < (n : Int) := by omega
        clear hr
        go_wp2_with (refine wpList_load_mid rfl 28 (.tmp 37) rfl b (off + j * 5) rfl (f j).cells _ HR.out Tryz.underlying28 rfl info_rop ?_)
        refine (storable (f j) _).mono ?_
        rintro e w3 ⟨b, rfl, hu3, hb3⟩
        have U3 := Lib.hid (HU.out.trans hu3)
        cases b with
        | false =>
          clear hb3 hu3
          go_wp2
          go_ret
          exact ⟨rfl, U3.out.below (Nat.le_refl _) (fun _ h => h.elim)⟩
        | true =>
          have HB3 := Lib.hid (hb3 rfl)
          clear hb3 hu3
          go_wp2
          go_roundw
          case rel =>
            refine ⟨j + 1, by omega, by go_num, U3.out, fun m hm => ?_⟩
            by_cases e : m = j
            · subst e; exact HB3.out
            · exact HS.out m (by omega)
          case measure => simp [intOf]; omega
      · obtain rfl : j = n := by omega
        have SO := Lib.hid HS.out
        have U3 := Lib.hid HU.out
        clear HS HU U2 S1 S2 hsum
        go_wp2_with fail
        refine (clone_ops a1 j c1 f _ hn _ (HF.out.upd U3.out (fun c h => h.elim))).mono ?_
        rintro e w4 ⟨a1, c1, rfl, hu4, h1⟩
        have U4 := Lib.hid (U3.out.trans hu4)
        have H1 := Lib.hid h1
        clear hu4 h1 U3
        go_wp2_with fail
        refine (clone_ops a2 q c2 g _ hq _ (HG.out.upd U4.out (fun c h => h.elim))).mono ?_
        rintro e w5 ⟨a2, c2, rfl, hu5, h2⟩
        have U5 := Lib.hid (U4.out.trans hu5)
        have H1 := Lib.hid ((H1.out.upd hu5 (fun c h => h.elim)).mono hu5.size)
        have H2 := Lib.hid h2
        clear hu5 h2 U4 HF HG
        obtain ⟨w6, hw6⟩ : ∃ w6 : World, w6 = w5 := ⟨_, rfl⟩
        rw [← hw6] at U5 H1 H2
        have U6 := Lib.hid U5.out
        clear U5
        subst hw6
        go_wp2_with fail
        refine (new_table _ _).mono ?_
        rintro e w8 ⟨T, A, m, rfl, hn8⟩
        have U8 := Lib.hid (show Upd (fun _ => False) w6 w8 from ((Upd.refl _ _).alloc _).trans hn8.upd)
        have hfp := new_fp hn8
        have FP := Lib.hid (show ∀ c, Fp ⟨T, .slice (some ⟨A, 0, none⟩) 0 32, none, m, .slice none 0 0, none⟩ c → w6.heap.size ≤ c from fun c h => by have := hfp c h; rw [World.size_alloc] at this; omega)
        have TB := Lib.hid (Tab.new hn8)
        clear hn8 hfp
        obtain ⟨La, hLa⟩ : ∃ La, La = w6.heap.size := ⟨_, rfl⟩
        go_wp2_with fail
        rw [← hLa]
        clear hLa
        go_loopw [8] (fun iv wr => ∃ (i : Nat) (t : Tbs) (S : St) (ks : List Value) (ix : List MapEntry), i ≤ j ∧ iv = .int .i64 i ∧ t.T = T ∧ Upd (fun _ => False) w6 wr ∧ (∀ c, Fp t c → w6.heap.size ≤ c) ∧ Tab wr t nilw S ks ix ∧ RanO f i S ∧ S.arr.length ≤ 65536 ∧ ks.length ≤ i) (fun iv _ => j - (intOf iv).toNat)
        case atStart => exact ⟨0, _, ⟨[], [], []⟩, [], [], Nat.zero_le _, rfl, rfl, U8.out, FP.out, TB.out, ranO_zero _, by simp, by simp⟩
        case round =>
          obtain ⟨i, t, S, ks, ix, hi, rfl, hT, hu9, hf9, ht9, hr9, hl9, hk9⟩ := hrel
          have V9 := Lib.hid hu9
          have F9 := Lib.hid hf9
          have T9 := Lib.hid ht9
          have R9 := Lib.hid hr9
          have hTT := Lib.hid hT
          clear hu9 hf9 ht9 hr9 hT U8 FP TB
          by_cases hlt : i < j
          · obtain ⟨b, off, rfl, hr, -⟩ := (H1.out.upd V9.out (fun c h => h.elim)).row hlt
            have HR := Lib.hid hr
            have i1 : (0 : Int) ≤ (i : Int) := by omega
            have i2 : (i : Int) < (j : Int) := by omega
            have C := raw_set_op (some ⟨La, 0, none⟩) (f i) t nilw S ks ix wr (SO.out i hlt) (by omega) hl9 T9.out
            rw [hTT.out] at C
            have CC := Lib.hid C
            clear hr C
            go_wp2_with (refine wpList_load_mid rfl 28 (.tmp 59) rfl b (off + i * 5) rfl (f i).cells _ HR.out Tryz.underlying28 rfl info_rop ?_)
            refine CC.out.mono ?_
            rintro e w' ⟨rfl, t', S', ks', ix', g1, g2, g3, g4, g5, g6, g7⟩
            have G := Lib.hid (show t'.T = T ∧ Upd (fun _ => False) w6 w' ∧ (∀ c, Fp t' c → w6.heap.size ≤ c) ∧ Tab w' t' nilw S' ks' ix' ∧ RanO f (i + 1) S' ∧ S'.arr.length ≤ 65536 ∧ ks'.length ≤ i + 1 from
              ⟨g1.trans hTT.out, V9.out.trans_new g2 F9.out, fun c hc => by
                rcases g3 c hc with h | h
                · exact F9.out c h
                · have := V9.out.size; omega, g4, R9.out.next g5, by omega, by omega⟩)
            clear g1 g2 g3 g4 g5 g6 g7 CC
            go_wp2
            go_roundw
            case rel => exact ⟨i + 1, t', S', ks', ix', by omega, by go_num, G.out.1, G.out.2.1, G.out.2.2.1, G.out.2.2.2.1, G.out.2.2.2.2.1, G.out.2.2.2.2.2.1, G.out.2.2.2.2.2.2⟩
            case measure => simp [intOf]; omega
          · obtain rfl : i = j := by omega
            obtain ⟨n, hnn⟩ : ∃ n, n = i := ⟨_, rfl⟩
            subst hnn
            obtain ⟨w9, hw9⟩ : ∃ w9 : World, w9 = wr := ⟨_, rfl⟩
            subst hw9
            clear hlt
            go_wp2_with fail
            go_loopw [9] (fun iv wr => ∃ i : Nat, i ≤ n ∧ iv = .int .i64 i ∧ Upd (fun _ => False) w9 wr) (fun iv _ => n - (intOf iv).toNat)
            case atStart => exact ⟨0, Nat.zero_le _, rfl, Upd.refl _ _⟩
            case round =>
              obtain ⟨i, hi, rfl, hu10⟩ := hrel
              have U10 := Lib.hid hu10
              clear hu10
              by_cases hlt : i < n
              · obtain ⟨b, off, rfl, -, r0, r1, r2, r3, r4⟩ := (H1.out.upd (V9.out.trans U10.out) (fun c h => h.elim)).row hlt
                have i1 : (0 : Int) ≤ (i : Int) := by omega
                have i2 : (i : Int) < (n : Int) := by omega
                have C29 := Lib.hid (show ∀ W, Upd (fun _ => False) wr W → Calls Tryz.prog 18 #[.pointer (some ⟨La, 0, none⟩), .pointer (some ⟨T, 0, none⟩), .agg #[.bool (f i).s, .float .f64 (f i).n, .string (f i).k, .string (f i).v, .bool (f i).d]] W fun e w' => e = .returned (ran f n (f i).key) ∧ Upd (fun _ => False) W w' from fun W hW => by
                  have C := raw_get_op (some ⟨La, 0, none⟩) (f i) t nilw S ks ix W (T9.out.upd (U10.out.trans hW) (fun _ _ h => h))
                  rw [hTT.out, R9.out] at C
                  exact C)
                have C28 := Lib.hid (show ∀ W, Upd (fun _ => False) wr W → Calls Tryz.prog 17 #[.slice (some ⟨b, off, none⟩) n c1, .agg #[.bool (f i).s, .float .f64 (f i).n, .string (f i).k, .string (f i).v, .bool (f i).d], ran f n (f i).key] W fun e w' => e = .returned (.bool true) ∧ Upd (fun _ => False) W w' from fun W hW =>
                  model_reads _ n c1 f (f i) _ W hn (H1.out.upd (V9.out.trans (U10.out.trans hW)) (fun c h => h.elim)))
                go_wp2_with fail
                go_region_held3 (fun w' => Upd (fun _ => False) wr w' ∧ w'.cell? ⟨b, off + i * 5, none⟩ = some (.bool (f i).s) ∧ w'.cell? ⟨b, off + i * 5 + 1, none⟩ = some (.float .f64 (f i).n) ∧ w'.cell? ⟨b, off + i * 5 + 2, none⟩ = some (.string (f i).k) ∧ w'.cell? ⟨b, off + i * 5 + 3, none⟩ = some (.string (f i).v) ∧ w'.cell? ⟨b, off + i * 5 + 4, none⟩ = some (.bool (f i).d))
                  (first | exact ⟨(Upd.refl _ _).drew, r0, r1, r2, r3, r4⟩ | exact keep5 hW1 r0 r1 r2 r3 r4 | exact keep5 hW2 r0 r1 r2 r3 r4)
                  (first
                    | (go_at_call 18; refine (C29.out _ (by first | assumption | exact (Upd.refl _ _).drew)).mono ?_; rintro e W1 ⟨rfl, hv1⟩; have hW1 : Upd (fun _ => False) wr W1 := Upd.trans (by first | assumption | exact (Upd.refl _ _).drew) hv1; clear hv1)
                    | (go_at_call 17; refine (C28.out _ (by first | assumption | exact (Upd.refl _ _).drew)).mono ?_; rintro e W2 ⟨rfl, hv2⟩; have hW2 : Upd (fun _ => False) wr W2 := Upd.trans (by first | assumption | exact (Upd.refl _ _).drew) hv2; clear hv2))
                have U11 := Lib.hid (U10.out.trans hW2)
                go_wp2
                go_roundw
                case rel => exact ⟨i + 1, by omega, by go_num, U11.out⟩
                case measure => simp [intOf]; omega
              · obtain rfl : i = n := by omega
                obtain ⟨n, hnn⟩ : ∃ n, n = i := ⟨_, rfl⟩
                subst hnn
                have V9 := Lib.hid (V9.out.trans U10.out)
                have T9 := Lib.hid (T9.out.upd U10.out (fun _ _ h => h))
                clear U10
                obtain ⟨w10, hw10⟩ : ∃ w10 : World, w10 = wr := ⟨_, rfl⟩
                subst hw10
                go_wp2_with fail
                go_loopw [10] (fun iv wr => ∃ i : Nat, i ≤ q ∧ iv = .int .i64 i ∧ Upd (fun _ => False) w10 wr) (fun iv _ => q - (intOf iv).toNat)
                case atStart => exact ⟨0, Nat.zero_le _, rfl, Upd.refl _ _⟩
                case round =>
                  obtain ⟨i, hi, rfl, hu10⟩ := hrel
                  have U10 := Lib.hid hu10
                  clear hu10
                  by_cases hlt : i < q
                  · obtain ⟨b, off, rfl, -, r0, r1, r2, r3, r4⟩ := (H2.out.upd (V9.out.trans U10.out) (fun c h => h.elim)).row hlt
                    have i1 : (0 : Int) ≤ (i : Int) := by omega
                    have i2 : (i : Int) < (q : Int) := by omega
                    have C29 := Lib.hid (show ∀ W, Upd (fun _ => False) wr W → Calls Tryz.prog 18 #[.pointer (some ⟨La, 0, none⟩), .pointer (some ⟨T, 0, none⟩), .agg #[.bool (g i).s, .float .f64 (g i).n, .string (g i).k, .string (g i).v, .bool (g i).d]] W fun e w' => e = .returned (ran f n (g i).key) ∧ Upd (fun _ => False) W w' from fun W hW => by
                      have C := raw_get_op (some ⟨La, 0, none⟩) (g i) t nilw S ks ix W (T9.out.upd (U10.out.trans hW) (fun _ _ h => h))
                      rw [hTT.out, R9.out] at C
                      exact C)
                    have C28 := Lib.hid (show ∀ W, Upd (fun _ => False) wr W → Calls Tryz.prog 17 #[.slice a1 n c1, .agg #[.bool (g i).s, .float .f64 (g i).n, .string (g i).k, .string (g i).v, .bool (g i).d], ran f n (g i).key] W fun e w' => e = .returned (.bool true) ∧ Upd (fun _ => False) W w' from fun W hW =>
                      model_reads _ n c1 f (g i) _ W hn (H1.out.upd (V9.out.trans (U10.out.trans hW)) (fun c h => h.elim)))
                    go_wp2_with fail
                    go_region_held3 (fun w' => Upd (fun _ => False) wr w' ∧ w'.cell? ⟨b, off + i * 5, none⟩ = some (.bool (g i).s) ∧ w'.cell? ⟨b, off + i * 5 + 1, none⟩ = some (.float .f64 (g i).n) ∧ w'.cell? ⟨b, off + i * 5 + 2, none⟩ = some (.string (g i).k) ∧ w'.cell? ⟨b, off + i * 5 + 3, none⟩ = some (.string (g i).v) ∧ w'.cell? ⟨b, off + i * 5 + 4, none⟩ = some (.bool (g i).d))
                      (first | exact ⟨(Upd.refl _ _).drew, r0, r1, r2, r3, r4⟩ | exact keep5 hW1 r0 r1 r2 r3 r4 | exact keep5 hW2 r0 r1 r2 r3 r4)
                      (first
                        | (go_at_call 18; refine (C29.out _ (by first | assumption | exact (Upd.refl _ _).drew)).mono ?_; rintro e W1 ⟨rfl, hv1⟩; have hW1 : Upd (fun _ => False) wr W1 := Upd.trans (by first | assumption | exact (Upd.refl _ _).drew) hv1; clear hv1)
                        | (go_at_call 17; refine (C28.out _ (by first | assumption | exact (Upd.refl _ _).drew)).mono ?_; rintro e W2 ⟨rfl, hv2⟩; have hW2 : Upd (fun _ => False) wr W2 := Upd.trans (by first | assumption | exact (Upd.refl _ _).drew) hv2; clear hv2))
                    have U11 := Lib.hid (U10.out.trans hW2)
                    go_wp2
                    go_roundw
                    case rel => exact ⟨i + 1, by omega, by go_num, U11.out⟩
                    case measure => simp [intOf]; omega
                  · obtain rfl : i = q := by omega
                    obtain ⟨q, hnn⟩ : ∃ q, q = i := ⟨_, rfl⟩
                    subst hnn
                    go_wp2
                    go_ret
                    exact ⟨rfl, ((U6.out.trans V9.out).trans U10.out).below (Nat.le_refl _) (fun _ h => h.elim)⟩

set_option maxHeartbeats 1600000 in
theorem raw_long (a1 a2 : Option Addr) (n c1 q c2 : Nat) (f g : Nat → Rop) (w : World) (h0 : n ≤ 9223372036854775807) (h1 : q ≤ 9223372036854775807) (hl : ¬ (n ≤ 4096 ∧ q ≤ 4096)) (hf : Rops w w.heap.size a1 n f) (hg : Rops w w.heap.size a2 q g) :
    Calls Tryz.prog 3 #[.slice a1 n c1, .slice a2 q c2] w (Good w) := by
  have HF := Lib.hid hf
  have HG := Lib.hid hg
  clear hf hg
  go_enter Tryz.func3, Tryz.ntmps3
  go_wp2_with fail
  refine (guard_raw a1 a2 n c1 q c2 f g _ _ h0 h1 HF.out HG.out).mono ?_
  rintro e w' ⟨b, rfl, rfl, hb⟩
  clear hb
  cases b with
  | false =>
    go_wp2
    go_ret
    exact ⟨rfl, Below.refl _ _⟩
  | true =>
    by_cases l0 : n ≤ 4096
    case neg =>
      go_wp2
      all_goals
        go_ret
        exact ⟨rfl, Below.refl _ _⟩
    have l1 : ¬ q ≤ 4096 := fun h => hl ⟨l0, h⟩
    clear hl
    go_wp2
    all_goals
      go_ret
      exact ⟨rfl, Below.refl _ _⟩
end Go.Proofs.YtlmadbgpllokfaaGreatFmt
