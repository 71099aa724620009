/- FnSetUpvalueSharedCellsAndGoFunctionRefused, walked. -/
import Derived.Test.YtejhfhcndpehiaaGreatFmtUpE
import Derived.IntWalk
namespace Go.Proofs.YtejhfhcndpehiaaGreatFmt
open Go.RowKit
set_option maxRecDepth 100000

/-- All that stands in this law; x: what the cells hold. -/
structure Sh (w wq : World) (D E n : Nat) (s x t : Nat → ByteArray) (a1 a2 : Option Addr) : Prop where
  ups : Ups w wq D n s x t a1 a2
  lt : D + 4 + n ≤ E
  n2 : Blk wq E (tab n fun m => .string (s (n - 1 - m))) 9
  u2 : Blk wq (E + 1) (tab n fun m => .pointer (some ⟨D + 2 + (n - 1 - m), 0, none⟩)) 60
  p2 : Blk wq (E + 2) (proto (some ⟨E, 0, none⟩) n n) 92
  f2 : Blk wq (E + 3) (fnc false (some ⟨E + 2, 0, none⟩) (some ⟨E + 1, 0, none⟩) n n) 81
  g : Blk wq (E + 4) (fnc true (some ⟨D + 2 + n, 0, none⟩) (some ⟨D + 1, 0, none⟩) n n) 81

theorem Sh.next {w w1 w2 : World} {D E n : Nat} {s x t : Nat → ByteArray} {a1 a2 : Option Addr} (h : Sh w w1 D E n s x t a1 a2) (hu : Upd (fun _ => False) w1 w2) : Sh w w2 D E n s x t a1 a2 :=
  ⟨h.ups.next hu, h.lt, hu.blk h.n2 (fun h => h), hu.blk h.u2 (fun h => h), hu.blk h.p2 (fun h => h), hu.blk h.f2 (fun h => h), hu.blk h.g (fun h => h)⟩
theorem Sh.set {w w1 w2 : World} {D E n m : Nat} {s x t : Nat → ByteArray} {a1 a2 : Option Addr} {v : ByteArray} (h : Sh w w1 D E n s x t a1 a2) (hm : m < n)
    (hu : Upd (fun c => c = D + 2 + m) w1 w2) (hb : Blk w2 (D + 2 + m) (upv (sv v) false) 104) : Sh w w2 D E n s (fun q => if q = m then v else x q) t a1 a2 := by
  have l := h.lt
  exact ⟨h.ups.set hm hu hb, l, hu.blk h.n2 (by omega), hu.blk h.u2 (by omega), hu.blk h.p2 (by omega), hu.blk h.f2 (by omega), hu.blk h.g (by omega)⟩

set_option maxHeartbeats 3200000 in
theorem shared_in (aN aV : Option Addr) (k cN p cV : Nat) (s t : Nat → ByteArray) (m : Nat) (v : ByteArray) (w : World) (hk : k ≤ 65536) (hp : p ≤ 65536) (hm : m < min k p)
    (hN : Cells w aN k fun j => .string (s j)) (hV : Cells w aV p fun j => .string (t j)) :
    Calls Tryz.prog 12 #[.slice aN k cN, .slice aV p cV, .int .i64 ((m : Int) + 1), .string v] w (Good w) := by
  have HN := Lib.hid hN
  have HV := Lib.hid hV
  have hmin := min_int k p
  obtain ⟨n, hn⟩ : ∃ n, min k p = n := ⟨_, rfl⟩
  have hn1 : n ≤ k := by omega
  have hn2 : n ≤ p := by omega
  rw [hn] at hmin
  have HMIN := Lib.hid hmin
  have d1 : decide ((65536 : Int) < (k : Int)) = false := decide_eq_false (by omega)
  have d2 : decide ((65536 : Int) < (p : Int)) = false := decide_eq_false (by omega)
  clear hN hV hmin
  go_enter Tryz.func12, Tryz.ntmps12
  go_wp2_with fail
  refine (zzShare aN aV k cN p cV s t ((m : Int) + 1) v _ (by omega) (by omega) HN.out HV.out).mono ?_
  rintro e w' ⟨b, rfl, rfl, hb⟩
  cases b with
  | false =>
    go_wp2
    go_ret
    exact ⟨rfl, Below.refl _ _⟩
  | true =>
    obtain ⟨hs, ht, hv⟩ := hb rfl
    have HS := Lib.hid hs
    have HT := Lib.hid ht
    have d3 : decide ((1048576 : Int) < (v.size : Int)) = false := decide_eq_false (by omega)
    clear hb hs ht
    go_wp2_with fail
    refine (strs_bytes aN k cN s _ (by omega) HN.out HS.out).mono ?_
    rintro e w' ⟨z1, hz1, rfl, rfl⟩
    go_wp2_with fail
    refine (strs_bytes aV p cV t _ (by omega) HV.out HT.out).mono ?_
    rintro e w' ⟨z2, hz2, rfl, rfl⟩
    by_cases hbig : z1 + z2 + v.size ≤ 1048576
    case neg =>
      have d4 : decide ((1048576 : Int) < (z1 : Int) + (z2 : Int) + (v.size : Int)) = true := decide_eq_true (by omega)
      go_wp2
      go_ret
      exact ⟨rfl, Below.refl _ _⟩
    have d4 : decide ((1048576 : Int) < (z1 : Int) + (z2 : Int) + (v.size : Int)) = false := decide_eq_false (by omega)
    go_wp2_with fail
    refine (cloneStr aN k cN s _ (by omega) HN.out).mono ?_
    rintro e w1 ⟨a1, c1, rfl, hu1, h1⟩
    have U1 := Lib.hid hu1
    have H1 := Lib.hid (Held.of_new h1)
    clear hu1 h1
    go_wp2_with fail
    refine (cloneStr aV p cV t _ (by omega) (HV.out.upd U1.out)).mono ?_
    rintro e w2 ⟨a2, c2, rfl, hu2, h2⟩
    have U2 := Lib.hid (U1.out.trans hu2)
    have H3 := Lib.hid (((H1.out.upd hu2 (fun c h => h.elim)).mono hu2.size).less hn1)
    have H2 := Lib.hid ((Held.of_new h2).less hn2)
    clear hu2 h2 H1 U1
    go_wp2_with fail
    refine (HMIN.out _).mono ?_
    rintro e w' ⟨rfl, rfl⟩
    clear d1 d2 d3 d4 hbig hz1 hz2 HS HT HN HV HMIN
    go_wp2_with fail
    refine (build_closure a1 a2 k c1 p c2 n s t _ (by omega) hn1 hn2 H3.out H2.out).mono ?_
    rintro e w3 ⟨rfl, hc⟩
    have U3 := Lib.hid (U2.out.trans hc.upd)
    obtain ⟨D, hD⟩ : ∃ D, w2.heap.size = D := ⟨_, rfl⟩
    have hS : Ups w2 w3 w2.heap.size n s t t a1 a2 := ⟨hc, H3.out.upd hc.upd (fun c h => h.elim), H2.out.upd hc.upd (fun c h => h.elim)⟩
    rw [hD] at hS ⊢
    have S3 := Lib.hid hS
    clear hS hD hc H2 H3
    have hmn : m < n := by omega
    have hmk := mk_cloneStr n (by omega)
    have hmu := mkUps n (by omega)
    go_wp2_with fail
    obtain ⟨E, hE⟩ : ∃ E, w3.heap.size = E := ⟨_, rfl⟩
    rw [hE]
    have hDE : D + 4 + n ≤ E := by rw [← hE]; have := S3.out.clo.fn.lt; omega
    have HE := Lib.hid hE
    clear hE hn
    go_loopw [13] (fun i wq => ∃ q : Nat, q ≤ n ∧ i = .int .i64 q ∧ wq.heap.size = E + 2 ∧ Ups w2 wq D n s t t a1 a2 ∧ Blk wq E (tab n fun m => .string (if m < q then s (n - 1 - m) else ByteArray.empty)) 9 ∧ Blk wq (E + 1) (tab n fun m => .pointer (if m < q then some ⟨D + 2 + (n - 1 - m), 0, none⟩ else none)) 60) (fun i _ => n - (intOf i).toNat)
    case atStart => exact ⟨0, Nat.zero_le _, rfl, by simp [HE.out], S3.out.next (((Upd.refl _ _).alloc _).alloc _), (Blk.new_at HE.out.symm _ _).alloc _, Blk.new_at (by rw [World.size_alloc, HE.out]) _ _⟩
    case round =>
      obtain ⟨q, hq, rfl, hz, hS, hb1, hb2⟩ := hrel
      have HZ := Lib.hid hz
      have S6 := Lib.hid hS
      have B1 := Lib.hid hb1
      have B2 := Lib.hid hb2
      clear hS S3 hb1 hb2 hz
      by_cases hlt : q < n
      · obtain ⟨b, off, ha1, hbl, cn⟩ := S6.out.nam (n - 1 - q) (by omega)
        subst ha1
        have f4 := S6.out.clo.fn.at (o := 4) rfl
        have u := S6.out.clo.ups.at (tab_in (m := n - 1 - q) (by omega))
        have c1 : wr.cell? ⟨E, q, none⟩ = some (.string ByteArray.empty) := B1.out.at (by rw [tab_in hlt, if_neg (by omega)])
        have c2 := B1.out.free q
        have c3 : wr.cell? ⟨E + 1, q, none⟩ = some (.pointer none) := B2.out.at (by rw [tab_in hlt, if_neg (by omega)])
        have c4 := B2.out.free q
        have hne : E ≠ E + 1 := by omega
        obtain ⟨r, hr⟩ : ∃ r, n - 1 - q = r := ⟨_, rfl⟩
        have e1 : (n : Int) - 1 - (q : Int) = (r : Int) := by omega
        rw [hr] at cn u
        have HR := Lib.hid hr
        have i3 : (q : Int) < (n : Int) := by omega
        have i4 : (0 : Int) ≤ (q : Int) := by omega
        have i5 : (r : Int) < (k : Int) := by omega
        have i6 : (r : Int) < (n : Int) := by omega
        have i7 : (0 : Int) ≤ (r : Int) := by omega
        clear hr
        go_wp2_with fail
        go_roundw
        case rel =>
          have r0 := HR.out
          subst r0
          refine ⟨q + 1, by omega, by go_num, by rw [World.size_setCell, World.size_setCell, HZ.out], ⟨⟨(S6.out.clo.upd.setCell _ _ (.inr (by show w2.heap.size ≤ E; have := S6.out.clo.old; omega))).setCell _ _ (.inr (by show w2.heap.size ≤ E + 1; have := S6.out.clo.old; omega)), S6.out.clo.old, ?_, ?_, ?_, ?_, ?_⟩, ?_, ?_⟩, ?_, ?_⟩
          · exact (S6.out.clo.dbg.set_other _ _ (by show D ≠ E; omega)).set_other _ _ (by show D ≠ E + 1; omega)
          · exact (S6.out.clo.ups.set_other _ _ (by show D + 1 ≠ E; omega)).set_other _ _ (by show D + 1 ≠ E + 1; omega)
          · exact fun j hj => ((S6.out.clo.box j hj).set_other _ _ (by show D + 2 + j ≠ E; omega)).set_other _ _ (by show D + 2 + j ≠ E + 1; omega)
          · exact (S6.out.clo.pro.set_other _ _ (by show D + 2 + n ≠ E; omega)).set_other _ _ (by show D + 2 + n ≠ E + 1; omega)
          · exact (S6.out.clo.fn.set_other _ _ (by show D + 3 + n ≠ E; omega)).set_other _ _ (by show D + 3 + n ≠ E + 1; omega)
          · exact (S6.out.nam.upd (S := fun c => c = E ∨ c = E + 1) (((Upd.refl _ _).setCell _ _ (.inl (.inl rfl))).setCell _ _ (.inl (.inr rfl))) (fun c h => by rcases h with h | h <;> omega))
          · exact (S6.out.val.upd (S := fun c => c = E ∨ c = E + 1) (((Upd.refl _ _).setCell _ _ (.inl (.inl rfl))).setCell _ _ (.inl (.inr rfl))) (fun c h => by rcases h with h | h <;> omega))
          · have h := B1.out.set q (.string (s (n - 1 - q)))
            rw [tab_set] at h
            rw [tab_congr (g := fun m => if m = q then Value.string (s (n - 1 - q)) else .string (if m < q then s (n - 1 - m) else ByteArray.empty))]
            · exact h.set_other _ _ (by show E ≠ E + 1; omega)
            · intro m _
              by_cases e : m = q
              · subst e; rw [if_pos rfl, if_pos (by omega)]
              · rw [if_neg e]
                by_cases e2 : m < q
                · rw [if_pos e2, if_pos (by omega)]
                · rw [if_neg e2, if_neg (by omega)]
          · have h := (B2.out.set_other ⟨E, q, none⟩ (.string (s (n - 1 - q))) (by show E + 1 ≠ E; omega)).set q (.pointer (some ⟨D + 2 + (n - 1 - q), 0, none⟩))
            rw [tab_set] at h
            rw [tab_congr (g := fun m => if m = q then Value.pointer (some ⟨D + 2 + (n - 1 - q), 0, none⟩) else .pointer (if m < q then some ⟨D + 2 + (n - 1 - m), 0, none⟩ else none))]
            · exact h
            · intro m _
              by_cases e : m = q
              · subst e; rw [if_pos rfl, if_pos (by omega)]
              · rw [if_neg e]
                by_cases e2 : m < q
                · rw [if_pos e2, if_pos (by omega)]
                · rw [if_neg e2, if_neg (by omega)]
        case measure => simp [intOf]; omega
      · obtain rfl : q = n := by omega
        have f2 := S6.out.clo.fn.at (o := 2) rfl
        have f4 := S6.out.clo.fn.at (o := 4) rfl
        go_wp2_with fail
        refine wp_region_tail_at 9 (by kernel_rfl) (by kernel_rfl) (fun W1 hW1 => ?_)
        have z := HZ.out
        have hu1 : Upd (fun _ => False) wr W1 := by rw [hW1]; exact (((Upd.refl _ _).alloc _).alloc _).drew
        have S7 := Lib.hid (S6.out.next hu1)
        have C1 := Lib.hid (show Blk W1 E (tab q fun m => .string (s (q - 1 - m))) 9 by
          have h := hu1.blk B1.out (fun h => h)
          rw [tab_congr (g := fun m => Value.string (s (q - 1 - m))) (fun m hm => by rw [if_pos hm])] at h
          exact h)
        have C2 := Lib.hid (show Blk W1 (E + 1) (tab q fun m => .pointer (some ⟨D + 2 + (q - 1 - m), 0, none⟩)) 60 by
          have h := hu1.blk B2.out (fun h => h)
          rw [tab_congr (g := fun m => Value.pointer (some ⟨D + 2 + (q - 1 - m), 0, none⟩)) (fun m hm => by rw [if_pos hm])] at h
          exact h)
        have C3 := Lib.hid (show Blk W1 (E + 2) (proto (some ⟨E, 0, none⟩) q q) 92 by rw [hW1]; exact ((Blk.new_at z.symm (proto (some ⟨E, 0, none⟩) q q) _).alloc _).drew)
        have C4 := Lib.hid (show Blk W1 (E + 3) (fnc false (some ⟨E + 2, 0, none⟩) (some ⟨E + 1, 0, none⟩) q q) 81 by
          rw [hW1, z]; exact (Blk.new_at (w := wr.alloc _) (by rw [World.size_alloc, z]) (fnc false (some ⟨E + 2, 0, none⟩) (some ⟨E + 1, 0, none⟩) q q) _).drew)
        have Z1 := Lib.hid (show W1.heap.size = E + 4 by rw [hW1]; show (World.alloc _ _).heap.size = _; simp [z])
        rw [z]
        clear z hW1 hu1 S6 B1 B2 HZ
        have f2 := S7.out.clo.fn.at (o := 2) rfl
        have f4 := S7.out.clo.fn.at (o := 4) rfl
        simp only [List.take_succ_cons, List.take_zero, List.drop_succ_cons, List.drop_zero]
        repeat still_step
        refine wpStill_nil ?_
        go_wp2_with fail
        have hu2 : Upd (fun _ => False) W1 ((W1.alloc (.cells (fnc true (some ⟨D + 2 + q, 0, none⟩) (some ⟨D + 1, 0, none⟩) q q).toArray 81)).alloc (.cells #[.pointer none, .pointer none, .pointer none, .nilFunc, .bool false, .int .i64 0, .int .i64 0, .int .i64 0, .int .i64 0, .bool false, .bool false, .bool false, .int .i32 0, .pointer none, .nilIface, .pointer none, .pointer none, .bool false, .pointer none, .bool false, .nilFunc] 63)) := ((Upd.refl _ _).alloc _).alloc _
        have S8 := Lib.hid (show Sh w2 ((W1.alloc (.cells (fnc true (some ⟨D + 2 + q, 0, none⟩) (some ⟨D + 1, 0, none⟩) q q).toArray 81)).alloc (.cells #[.pointer none, .pointer none, .pointer none, .nilFunc, .bool false, .int .i64 0, .int .i64 0, .int .i64 0, .int .i64 0, .bool false, .bool false, .bool false, .int .i32 0, .pointer none, .nilIface, .pointer none, .pointer none, .bool false, .pointer none, .bool false, .nilFunc] 63)) D E q s t t a1 a2 from
          ⟨S7.out.next hu2, hDE, hu2.blk C1.out (fun h => h), hu2.blk C2.out (fun h => h), hu2.blk C3.out (fun h => h), hu2.blk C4.out (fun h => h), (Blk.new_at Z1.out.symm _ _).alloc _⟩)
        clear hu2 C1 C2 C3 C4 S7 f2 f4
        rw [Z1.out]
        refine (set_upvalue_g (E + 4) q q _ _ _ _ 74 _ _ (by exact S8.out.g)).mono ?_
        rintro e w5 ⟨rfl, rfl⟩
        have S9 := Lib.hid (by exact S8.out : Sh w2 _ D E q s t t a1 a2)
        clear S8 Z1
        go_wp2_with fail
        go_loopw [17] (fun i wx => ∃ j : Nat, j ≤ q ∧ i = .int .i64 j ∧ Sh w2 wx D E q s t t a1 a2) (fun i _ => q - (intOf i).toNat)
        case atStart => exact ⟨0, Nat.zero_le _, rfl, S9.out⟩
        case round =>
          obtain ⟨j, hj, rfl, hS⟩ := hrel
          have S10 := Lib.hid hS
          clear hS S9
          by_cases hlt2 : j < q
          · obtain ⟨b2, off2, ha2, hb2, cv⟩ := S10.out.ups.val j hlt2
            subst ha2
            have f4 := S10.out.ups.clo.fn.at (o := 4) rfl
            have u := S10.out.ups.clo.ups.at (tab_in hlt2)
            have i4 : (0 : Int) ≤ (j : Int) := by omega
            have i5 : (j : Int) < (p : Int) := by omega
            have i6 : (j : Int) < (q : Int) := by omega
            go_wp2
            go_quiet ((first | (go_at_call 37; exact Calls.quiet_of_same (uv_value (D + 2 + j) _ false _ (by exact S10.out.ups.clo.box j hlt2))) | (go_at_call 36; exact Calls.quiet_of_same ((reads_string (t j) _).mono (fun _ _ h => ⟨h.1, h.2.symm⟩)))))
            go_wp2
            go_roundw
            case rel => exact ⟨j + 1, by omega, by go_num, S10.out.next ((Upd.refl _ _).drewN _)⟩
            case measure => simp [intOf]; omega
          · go_wp2_with fail
            refine (get_upvalue_g (E + 4) q q _ _ _ _ _ (by exact S10.out.g)).mono ?_
            rintro e w' ⟨rfl, rfl⟩
            go_wp2_with fail
            refine (reads_nil _).mono ?_
            rintro e w' ⟨rfl, rfl⟩
            go_wp2_with fail
            refine (set_upvalue_in (D + 3 + q) (D + 2 + q) (D + 1) q q q D _ (fun z => D + 2 + z) s m (sv (t m)) false 74 (.string v) _ (by omega) hmn (by exact S10.out.ups.clo.fn) (by exact S10.out.ups.clo.ups) (by exact S10.out.ups.clo.box m hmn) (by exact S10.out.ups.clo.pro) (by exact S10.out.ups.clo.dbg) (by refine ⟨?_, ?_, ?_⟩ <;> omega)).mono ?_
            rintro e w6 ⟨rfl, hu, hb⟩
            have S11 := Lib.hid (S10.out.set hmn hu hb)
            clear hu hb S10
            obtain ⟨b, off, ha1, hbl, cn⟩ := S11.out.ups.nam m hmn
            subst ha1
            have i1 : (1 : Int) ≤ (m : Int) + 1 := by omega
            have i2 : (m : Int) + 1 ≤ (q : Int) := by omega
            have i3 : (m : Int) < (k : Int) := by omega
            go_wp2_with fail
            obtain ⟨r, hr⟩ : ∃ r, q - 1 - m = r := ⟨_, rfl⟩
            have hrq : r < q := by omega
            have hrm : q - 1 - r = m := by omega
            rw [show (q : Int) + 1 - ((m : Int) + 1) = (r : Int) + 1 by omega]
            clear hr
            have hg := get_upvalue_in (E + 3) (E + 2) (E + 1) q q q E (some ⟨E + 5, 0, none⟩) (fun z => D + 2 + (q - 1 - z)) (fun z => s (q - 1 - z)) r (sv v) false w6 (by omega) hrq S11.out.f2 S11.out.u2 (by
              have h := S11.out.ups.clo.box (q - 1 - r) (by omega)
              rw [if_pos hrm] at h
              exact h) S11.out.p2 S11.out.n2
            rw [hrm] at hg
            clear cn
            refine hg.mono ?_
            rintro e w7 ⟨rfl, n3, rfl⟩
            have S12 := Lib.hid (S11.out.next ((Upd.refl _ _).drewN n3))
            clear S11 hg
            generalize World.drewN _ n3 = w8 at *
            obtain ⟨b4, off4, ha4, hb4, cn⟩ := S12.out.ups.nam m hmn
            cases ha4
            go_wp2_with fail
            refine (reads_string v _).mono ?_
            rintro e w' ⟨rfl, rfl⟩
            go_wp2_with fail
            clear cn
            go_loopw [24] (fun i wx => ∃ j : Nat, j ≤ q ∧ i = .int .i64 j ∧ Sh w2 wx D E q s (fun z => if z = m then v else t z) t (some ⟨b, off, none⟩) a2) (fun i _ => q - (intOf i).toNat)
            case atStart => exact ⟨0, Nat.zero_le _, rfl, S12.out⟩
            case round =>
              obtain ⟨j, hj, rfl, hS⟩ := hrel
              have S13 := Lib.hid hS
              clear hS S12
              by_cases hlt3 : j < q
              · obtain ⟨b5, off5, ha5, hb5, cv⟩ := S13.out.ups.val j hlt3
                subst ha5
                obtain ⟨z, hz⟩ : ∃ z, q - 1 - j = z := ⟨_, rfl⟩
                have hzq : z < q := by omega
                have hzj : q - 1 - z = j := by omega
                have e1 : (q : Int) - 1 - (j : Int) = (z : Int) := by omega
                have f4 : wr.cell? ⟨E + 2 + 1, 4, none⟩ = some (.slice (some ⟨E + 1, 0, none⟩) q q) := S13.out.f2.at (o := 4) rfl
                have u := S13.out.u2.at (tab_in hzq)
                rw [hzj] at u
                have i4 : (0 : Int) ≤ (j : Int) := by omega
                have i5 : (j : Int) < (p : Int) := by omega
                have i6 : (0 : Int) ≤ (z : Int) := by omega
                have i7 : (z : Int) < (q : Int) := by omega
                clear hz hzj
                by_cases e : j = m
                · subst e
                  have b0 : ((j : Int) == (j : Int)) = true := by simp
                  go_wp2_with fail
                  refine (uv_value (D + 2 + j) _ false _ (by exact S13.out.ups.clo.box j hlt3)).mono ?_
                  rintro e w' ⟨rfl, rfl⟩
                  rw [if_pos rfl]
                  go_wp2_with fail
                  refine (reads_string v _).mono ?_
                  rintro e w' ⟨rfl, rfl⟩
                  go_wp2
                  go_roundw
                  case rel => exact ⟨j + 1, by omega, by go_num, S13.out⟩
                  case measure => simp [intOf]; omega
                · have b0 : ((j : Int) == (m : Int)) = false := by simp; omega
                  go_wp2_with fail
                  refine (uv_value (D + 2 + j) _ false _ (by exact S13.out.ups.clo.box j hlt3)).mono ?_
                  rintro e w' ⟨rfl, rfl⟩
                  rw [if_neg e]
                  go_wp2_with fail
                  refine (reads_string (t j) _).mono ?_
                  rintro e w' ⟨rfl, rfl⟩
                  go_wp2
                  go_roundw
                  case rel => exact ⟨j + 1, by omega, by go_num, S13.out⟩
                  case measure => simp [intOf]; omega
              · go_wp2
                go_ret
                exact ⟨rfl, (U2.out.trans S13.out.ups.clo.upd).below (Nat.le_refl _) (fun k h => h.elim)⟩

set_option maxHeartbeats 3200000 in
theorem shared_out (aN aV : Option Addr) (k cN p cV : Nat) (s t : Nat → ByteArray) (no : Int) (v : ByteArray) (w : World) (hk : k ≤ 65536) (hp : p ≤ 65536) (hn3 : -9223372036854775808 ≤ no) (hn4 : no ≤ 9223372036854775807) (hno : no < 1 ∨ ((min k p : Nat) : Int) < no)
    (hN : Cells w aN k fun j => .string (s j)) (hV : Cells w aV p fun j => .string (t j)) :
    Calls Tryz.prog 12 #[.slice aN k cN, .slice aV p cV, .int .i64 no, .string v] w (Good w) := by
  have HN := Lib.hid hN
  have HV := Lib.hid hV
  have hmin := min_int k p
  obtain ⟨n, hn⟩ : ∃ n, min k p = n := ⟨_, rfl⟩
  have hn1 : n ≤ k := by omega
  have hn2 : n ≤ p := by omega
  rw [hn] at hmin
  have HMIN := Lib.hid hmin
  have d1 : decide ((65536 : Int) < (k : Int)) = false := decide_eq_false (by omega)
  have d2 : decide ((65536 : Int) < (p : Int)) = false := decide_eq_false (by omega)
  clear hN hV hmin
  go_enter Tryz.func12, Tryz.ntmps12
  go_wp2_with fail
  refine (zzShare aN aV k cN p cV s t no v _ (by omega) (by omega) HN.out HV.out).mono ?_
  rintro e w' ⟨b, rfl, rfl, hb⟩
  cases b with
  | false =>
    go_wp2
    go_ret
    exact ⟨rfl, Below.refl _ _⟩
  | true =>
    obtain ⟨hs, ht, hv⟩ := hb rfl
    have HS := Lib.hid hs
    have HT := Lib.hid ht
    have d3 : decide ((1048576 : Int) < (v.size : Int)) = false := decide_eq_false (by omega)
    clear hb hs ht
    go_wp2_with fail
    refine (strs_bytes aN k cN s _ (by omega) HN.out HS.out).mono ?_
    rintro e w' ⟨z1, hz1, rfl, rfl⟩
    go_wp2_with fail
    refine (strs_bytes aV p cV t _ (by omega) HV.out HT.out).mono ?_
    rintro e w' ⟨z2, hz2, rfl, rfl⟩
    by_cases hbig : z1 + z2 + v.size ≤ 1048576
    case neg =>
      have d4 : decide ((1048576 : Int) < (z1 : Int) + (z2 : Int) + (v.size : Int)) = true := decide_eq_true (by omega)
      go_wp2
      go_ret
      exact ⟨rfl, Below.refl _ _⟩
    have d4 : decide ((1048576 : Int) < (z1 : Int) + (z2 : Int) + (v.size : Int)) = false := decide_eq_false (by omega)
    go_wp2_with fail
    refine (cloneStr aN k cN s _ (by omega) HN.out).mono ?_
    rintro e w1 ⟨a1, c1, rfl, hu1, h1⟩
    have U1 := Lib.hid hu1
    have H1 := Lib.hid (Held.of_new h1)
    clear hu1 h1
    go_wp2_with fail
    refine (cloneStr aV p cV t _ (by omega) (HV.out.upd U1.out)).mono ?_
    rintro e w2 ⟨a2, c2, rfl, hu2, h2⟩
    have U2 := Lib.hid (U1.out.trans hu2)
    have H3 := Lib.hid (((H1.out.upd hu2 (fun c h => h.elim)).mono hu2.size).less hn1)
    have H2 := Lib.hid ((Held.of_new h2).less hn2)
    clear hu2 h2 H1 U1
    go_wp2_with fail
    refine (HMIN.out _).mono ?_
    rintro e w' ⟨rfl, rfl⟩
    clear d1 d2 d3 d4 hbig hz1 hz2 HS HT HN HV HMIN
    go_wp2_with fail
    refine (build_closure a1 a2 k c1 p c2 n s t _ (by omega) hn1 hn2 H3.out H2.out).mono ?_
    rintro e w3 ⟨rfl, hc⟩
    have U3 := Lib.hid (U2.out.trans hc.upd)
    obtain ⟨D, hD⟩ : ∃ D, w2.heap.size = D := ⟨_, rfl⟩
    have hS : Ups w2 w3 w2.heap.size n s t t a1 a2 := ⟨hc, H3.out.upd hc.upd (fun c h => h.elim), H2.out.upd hc.upd (fun c h => h.elim)⟩
    rw [hD] at hS ⊢
    have S3 := Lib.hid hS
    clear hS hD hc H2 H3
    rw [hn] at hno
    have HNO := Lib.hid hno
    have HN3 := Lib.hid hn3
    have HN4 := Lib.hid hn4
    clear hno hn3 hn4
    have hmk := mk_cloneStr n (by omega)
    have hmu := mkUps n (by omega)
    go_wp2_with fail
    obtain ⟨E, hE⟩ : ∃ E, w3.heap.size = E := ⟨_, rfl⟩
    rw [hE]
    have hDE : D + 4 + n ≤ E := by rw [← hE]; have := S3.out.clo.fn.lt; omega
    have HE := Lib.hid hE
    clear hE hn
    go_loopw [13] (fun i wq => ∃ q : Nat, q ≤ n ∧ i = .int .i64 q ∧ wq.heap.size = E + 2 ∧ Ups w2 wq D n s t t a1 a2 ∧ Blk wq E (tab n fun m => .string (if m < q then s (n - 1 - m) else ByteArray.empty)) 9 ∧ Blk wq (E + 1) (tab n fun m => .pointer (if m < q then some ⟨D + 2 + (n - 1 - m), 0, none⟩ else none)) 60) (fun i _ => n - (intOf i).toNat)
    case atStart => exact ⟨0, Nat.zero_le _, rfl, by simp [HE.out], S3.out.next (((Upd.refl _ _).alloc _).alloc _), (Blk.new_at HE.out.symm _ _).alloc _, Blk.new_at (by rw [World.size_alloc, HE.out]) _ _⟩
    case round =>
      obtain ⟨q, hq, rfl, hz, hS, hb1, hb2⟩ := hrel
      have HZ := Lib.hid hz
      have S6 := Lib.hid hS
      have B1 := Lib.hid hb1
      have B2 := Lib.hid hb2
      clear hS S3 hb1 hb2 hz
      by_cases hlt : q < n
      · obtain ⟨b, off, ha1, hbl, cn⟩ := S6.out.nam (n - 1 - q) (by omega)
        subst ha1
        have f4 := S6.out.clo.fn.at (o := 4) rfl
        have u := S6.out.clo.ups.at (tab_in (m := n - 1 - q) (by omega))
        have c1 : wr.cell? ⟨E, q, none⟩ = some (.string ByteArray.empty) := B1.out.at (by rw [tab_in hlt, if_neg (by omega)])
        have c2 := B1.out.free q
        have c3 : wr.cell? ⟨E + 1, q, none⟩ = some (.pointer none) := B2.out.at (by rw [tab_in hlt, if_neg (by omega)])
        have c4 := B2.out.free q
        have hne : E ≠ E + 1 := by omega
        obtain ⟨r, hr⟩ : ∃ r, n - 1 - q = r := ⟨_, rfl⟩
        have e1 : (n : Int) - 1 - (q : Int) = (r : Int) := by omega
        rw [hr] at cn u
        have HR := Lib.hid hr
        have i3 : (q : Int) < (n : Int) := by omega
        have i4 : (0 : Int) ≤ (q : Int) := by omega
        have i5 : (r : Int) < (k : Int) := by omega
        have i6 : (r : Int) < (n : Int) := by omega
        have i7 : (0 : Int) ≤ (r : Int) := by omega
        clear hr
        go_wp2_with fail
        go_roundw
        case rel =>
          have r0 := HR.out
          subst r0
          refine ⟨q + 1, by omega, by go_num, by rw [World.size_setCell, World.size_setCell, HZ.out], ⟨⟨(S6.out.clo.upd.setCell _ _ (.inr (by show w2.heap.size ≤ E; have := S6.out.clo.old; omega))).setCell _ _ (.inr (by show w2.heap.size ≤ E + 1; have := S6.out.clo.old; omega)), S6.out.clo.old, ?_, ?_, ?_, ?_, ?_⟩, ?_, ?_⟩, ?_, ?_⟩
          · exact (S6.out.clo.dbg.set_other _ _ (by show D ≠ E; omega)).set_other _ _ (by show D ≠ E + 1; omega)
          · exact (S6.out.clo.ups.set_other _ _ (by show D + 1 ≠ E; omega)).set_other _ _ (by show D + 1 ≠ E + 1; omega)
          · exact fun j hj => ((S6.out.clo.box j hj).set_other _ _ (by show D + 2 + j ≠ E; omega)).set_other _ _ (by show D + 2 + j ≠ E + 1; omega)
          · exact (S6.out.clo.pro.set_other _ _ (by show D + 2 + n ≠ E; omega)).set_other _ _ (by show D + 2 + n ≠ E + 1; omega)
          · exact (S6.out.clo.fn.set_other _ _ (by show D + 3 + n ≠ E; omega)).set_other _ _ (by show D + 3 + n ≠ E + 1; omega)
          · exact (S6.out.nam.upd (S := fun c => c = E ∨ c = E + 1) (((Upd.refl _ _).setCell _ _ (.inl (.inl rfl))).setCell _ _ (.inl (.inr rfl))) (fun c h => by rcases h with h | h <;> omega))
          · exact (S6.out.val.upd (S := fun c => c = E ∨ c = E + 1) (((Upd.refl _ _).setCell _ _ (.inl (.inl rfl))).setCell _ _ (.inl (.inr rfl))) (fun c h => by rcases h with h | h <;> omega))
          · have h := B1.out.set q (.string (s (n - 1 - q)))
            rw [tab_set] at h
            rw [tab_congr (g := fun m => if m = q then Value.string (s (n - 1 - q)) else .string (if m < q then s (n - 1 - m) else ByteArray.empty))]
            · exact h.set_other _ _ (by show E ≠ E + 1; omega)
            · intro m _
              by_cases e : m = q
              · subst e; rw [if_pos rfl, if_pos (by omega)]
              · rw [if_neg e]
                by_cases e2 : m < q
                · rw [if_pos e2, if_pos (by omega)]
                · rw [if_neg e2, if_neg (by omega)]
          · have h := (B2.out.set_other ⟨E, q, none⟩ (.string (s (n - 1 - q))) (by show E + 1 ≠ E; omega)).set q (.pointer (some ⟨D + 2 + (n - 1 - q), 0, none⟩))
            rw [tab_set] at h
            rw [tab_congr (g := fun m => if m = q then Value.pointer (some ⟨D + 2 + (n - 1 - q), 0, none⟩) else .pointer (if m < q then some ⟨D + 2 + (n - 1 - m), 0, none⟩ else none))]
            · exact h
            · intro m _
              by_cases e : m = q
              · subst e; rw [if_pos rfl, if_pos (by omega)]
              · rw [if_neg e]
                by_cases e2 : m < q
                · rw [if_pos e2, if_pos (by omega)]
                · rw [if_neg e2, if_neg (by omega)]
        case measure => simp [intOf]; omega
      · obtain rfl : q = n := by omega
        have f2 := S6.out.clo.fn.at (o := 2) rfl
        have f4 := S6.out.clo.fn.at (o := 4) rfl
        go_wp2_with fail
        refine wp_region_tail_at 9 (by kernel_rfl) (by kernel_rfl) (fun W1 hW1 => ?_)
        have z := HZ.out
        have hu1 : Upd (fun _ => False) wr W1 := by rw [hW1]; exact (((Upd.refl _ _).alloc _).alloc _).drew
        have S7 := Lib.hid (S6.out.next hu1)
        have C1 := Lib.hid (show Blk W1 E (tab q fun m => .string (s (q - 1 - m))) 9 by
          have h := hu1.blk B1.out (fun h => h)
          rw [tab_congr (g := fun m => Value.string (s (q - 1 - m))) (fun m hm => by rw [if_pos hm])] at h
          exact h)
        have C2 := Lib.hid (show Blk W1 (E + 1) (tab q fun m => .pointer (some ⟨D + 2 + (q - 1 - m), 0, none⟩)) 60 by
          have h := hu1.blk B2.out (fun h => h)
          rw [tab_congr (g := fun m => Value.pointer (some ⟨D + 2 + (q - 1 - m), 0, none⟩)) (fun m hm => by rw [if_pos hm])] at h
          exact h)
        have C3 := Lib.hid (show Blk W1 (E + 2) (proto (some ⟨E, 0, none⟩) q q) 92 by rw [hW1]; exact ((Blk.new_at z.symm (proto (some ⟨E, 0, none⟩) q q) _).alloc _).drew)
        have C4 := Lib.hid (show Blk W1 (E + 3) (fnc false (some ⟨E + 2, 0, none⟩) (some ⟨E + 1, 0, none⟩) q q) 81 by
          rw [hW1, z]; exact (Blk.new_at (w := wr.alloc _) (by rw [World.size_alloc, z]) (fnc false (some ⟨E + 2, 0, none⟩) (some ⟨E + 1, 0, none⟩) q q) _).drew)
        have Z1 := Lib.hid (show W1.heap.size = E + 4 by rw [hW1]; show (World.alloc _ _).heap.size = _; simp [z])
        rw [z]
        clear z hW1 hu1 S6 B1 B2 HZ
        have f2 := S7.out.clo.fn.at (o := 2) rfl
        have f4 := S7.out.clo.fn.at (o := 4) rfl
        simp only [List.take_succ_cons, List.take_zero, List.drop_succ_cons, List.drop_zero]
        repeat still_step
        refine wpStill_nil ?_
        go_wp2_with fail
        have hu2 : Upd (fun _ => False) W1 ((W1.alloc (.cells (fnc true (some ⟨D + 2 + q, 0, none⟩) (some ⟨D + 1, 0, none⟩) q q).toArray 81)).alloc (.cells #[.pointer none, .pointer none, .pointer none, .nilFunc, .bool false, .int .i64 0, .int .i64 0, .int .i64 0, .int .i64 0, .bool false, .bool false, .bool false, .int .i32 0, .pointer none, .nilIface, .pointer none, .pointer none, .bool false, .pointer none, .bool false, .nilFunc] 63)) := ((Upd.refl _ _).alloc _).alloc _
        have S8 := Lib.hid (show Sh w2 ((W1.alloc (.cells (fnc true (some ⟨D + 2 + q, 0, none⟩) (some ⟨D + 1, 0, none⟩) q q).toArray 81)).alloc (.cells #[.pointer none, .pointer none, .pointer none, .nilFunc, .bool false, .int .i64 0, .int .i64 0, .int .i64 0, .int .i64 0, .bool false, .bool false, .bool false, .int .i32 0, .pointer none, .nilIface, .pointer none, .pointer none, .bool false, .pointer none, .bool false, .nilFunc] 63)) D E q s t t a1 a2 from
          ⟨S7.out.next hu2, hDE, hu2.blk C1.out (fun h => h), hu2.blk C2.out (fun h => h), hu2.blk C3.out (fun h => h), hu2.blk C4.out (fun h => h), (Blk.new_at Z1.out.symm _ _).alloc _⟩)
        clear hu2 C1 C2 C3 C4 S7 f2 f4
        rw [Z1.out]
        refine (set_upvalue_g (E + 4) q q _ _ _ _ 74 _ _ (by exact S8.out.g)).mono ?_
        rintro e w5 ⟨rfl, rfl⟩
        have S9 := Lib.hid (by exact S8.out : Sh w2 _ D E q s t t a1 a2)
        clear S8 Z1
        go_wp2_with fail
        go_loopw [17] (fun i wx => ∃ j : Nat, j ≤ q ∧ i = .int .i64 j ∧ Sh w2 wx D E q s t t a1 a2) (fun i _ => q - (intOf i).toNat)
        case atStart => exact ⟨0, Nat.zero_le _, rfl, S9.out⟩
        case round =>
          obtain ⟨j, hj, rfl, hS⟩ := hrel
          have S10 := Lib.hid hS
          clear hS S9
          by_cases hlt2 : j < q
          · obtain ⟨b2, off2, ha2, hb2, cv⟩ := S10.out.ups.val j hlt2
            subst ha2
            have f4 := S10.out.ups.clo.fn.at (o := 4) rfl
            have u := S10.out.ups.clo.ups.at (tab_in hlt2)
            have i4 : (0 : Int) ≤ (j : Int) := by omega
            have i5 : (j : Int) < (p : Int) := by omega
            have i6 : (j : Int) < (q : Int) := by omega
            go_wp2
            go_quiet ((first | (go_at_call 37; exact Calls.quiet_of_same (uv_value (D + 2 + j) _ false _ (by exact S10.out.ups.clo.box j hlt2))) | (go_at_call 36; exact Calls.quiet_of_same ((reads_string (t j) _).mono (fun _ _ h => ⟨h.1, h.2.symm⟩)))))
            go_wp2
            go_roundw
            case rel => exact ⟨j + 1, by omega, by go_num, S10.out.next ((Upd.refl _ _).drewN _)⟩
            case measure => simp [intOf]; omega
          · go_wp2_with fail
            refine (get_upvalue_g (E + 4) q q _ _ _ _ _ (by exact S10.out.g)).mono ?_
            rintro e w' ⟨rfl, rfl⟩
            go_wp2_with fail
            refine (reads_nil _).mono ?_
            rintro e w' ⟨rfl, rfl⟩
            go_wp2_with fail
            refine (set_upvalue_out (D + 3 + q) q q _ _ _ no 74 (.string v) _ HN3.out HNO.out (by omega) HN4.out (by exact S10.out.ups.clo.fn)).mono ?_
            rintro e w6 ⟨rfl, rfl⟩
            have hout : decide (1 ≤ no) = false ∨ decide (1 ≤ no) = true ∧ decide (no ≤ (q : Int)) = false := by
              have h3 := HN3.out
              rcases HNO.out with h | h
              · exact .inl (decide_eq_false (by omega))
              · exact .inr ⟨decide_eq_true (by omega), decide_eq_false (by omega)⟩
            rcases hout with hd | ⟨hd, hd2⟩
            all_goals
              go_wp2_with fail
              go_loopw [24] (fun i wx => ∃ j : Nat, j ≤ q ∧ i = .int .i64 j ∧ Sh w2 wx D E q s t t a1 a2) (fun i _ => q - (intOf i).toNat)
              case atStart => exact ⟨0, Nat.zero_le _, rfl, S10.out⟩
              case round =>
                obtain ⟨j, hj, rfl, hS⟩ := hrel
                have S13 := Lib.hid hS
                clear hS S10
                by_cases hlt3 : j < q
                · obtain ⟨b5, off5, ha5, hb5, cv⟩ := S13.out.ups.val j hlt3
                  subst ha5
                  obtain ⟨z, hz⟩ : ∃ z, q - 1 - j = z := ⟨_, rfl⟩
                  have hzq : z < q := by omega
                  have hzj : q - 1 - z = j := by omega
                  have e1 : (q : Int) - 1 - (j : Int) = (z : Int) := by omega
                  have f4 : wr.cell? ⟨E + 2 + 1, 4, none⟩ = some (.slice (some ⟨E + 1, 0, none⟩) q q) := S13.out.f2.at (o := 4) rfl
                  have u := S13.out.u2.at (tab_in hzq)
                  rw [hzj] at u
                  have i4 : (0 : Int) ≤ (j : Int) := by omega
                  have i5 : (j : Int) < (p : Int) := by omega
                  have i6 : (0 : Int) ≤ (z : Int) := by omega
                  have i7 : (z : Int) < (q : Int) := by omega
                  clear hz hzj
                  go_wp2_with fail
                  refine (uv_value (D + 2 + j) _ false _ (by exact S13.out.ups.clo.box j hlt3)).mono ?_
                  rintro e w' ⟨rfl, rfl⟩
                  go_wp2_with fail
                  refine (reads_string (t j) _).mono ?_
                  rintro e w' ⟨rfl, rfl⟩
                  go_wp2
                  go_roundw
                  case rel => exact ⟨j + 1, by omega, by go_num, S13.out⟩
                  case measure => simp [intOf]; omega
                · go_wp2
                  go_ret
                  exact ⟨rfl, (U2.out.trans S13.out.ups.clo.upd).below (Nat.le_refl _) (fun k h => h.elim)⟩

set_option maxHeartbeats 800000 in
theorem shared_long (aN aV : Option Addr) (k cN p cV : Nat) (s t : Nat → ByteArray) (no : Int) (v : ByteArray) (w : World) (hkm : k ≤ 9223372036854775807) (hpm : p ≤ 9223372036854775807) (hl : ¬ (k ≤ 65536 ∧ p ≤ 65536))
    (hN : Cells w aN k fun j => .string (s j)) (hV : Cells w aV p fun j => .string (t j)) :
    Calls Tryz.prog 12 #[.slice aN k cN, .slice aV p cV, .int .i64 no, .string v] w (Good w) := by
  have hz := zzShare aN aV k cN p cV s t no v w hkm hpm hN hV
  clear hkm hpm hN hV
  by_cases h1 : k ≤ 65536
  · have d1 : decide ((65536 : Int) < (k : Int)) = false := decide_eq_false (by omega)
    have d2 : decide ((65536 : Int) < (p : Int)) = true := decide_eq_true (by omega)
    clear hl h1
    go_enter Tryz.func12, Tryz.ntmps12
    go_wp2_with fail
    refine hz.mono ?_
    rintro e w' ⟨b, rfl, rfl, hb⟩
    clear hb
    cases b
    all_goals
      go_wp2
      go_ret
      exact ⟨rfl, Below.refl _ _⟩
  · have d1 : decide ((65536 : Int) < (k : Int)) = true := decide_eq_true (by omega)
    clear hl h1
    go_enter Tryz.func12, Tryz.ntmps12
    go_wp2_with fail
    refine hz.mono ?_
    rintro e w' ⟨b, rfl, rfl, hb⟩
    clear hb
    cases b
    all_goals
      go_wp2
      go_ret
      exact ⟨rfl, Below.refl _ _⟩
end Go.Proofs.YtejhfhcndpehiaaGreatFmt
