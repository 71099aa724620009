/- Operations of the laws on RawGet: stores, look-ups, and the model that they are held against: walked. -/
import Derived.Test.YtlmadbgpllokfaaGreatFmtOpa
namespace Go.Proofs.YtlmadbgpllokfaaGreatFmt
open Go.RowKit Go.Mapy Go.Tbl
set_option maxRecDepth 100000

theorem keq_comm (a b : Key) : keq a b = keq b a := by
  cases h : keq a b
  · cases h2 : keq b a
    · rfl
    · rw [keq_symm h2] at h; cases h
  · rw [keq_symm h]

theorem list_beq (a b : ByteArray) : (a.toList == b.toList) = (a == b) := by
  cases h : (a == b)
  · cases h2 : (a.toList == b.toList)
    · rfl
    · rw [beq_iff_eq, ByteArray.toList_eq, ByteArray.toList_eq] at h2
      rw [(ba_beq a b).2 (ByteArray.ext (Array.toList_inj.mp h2))] at h
      cases h
  · rw [(ba_beq a b).1 h]
    simp

def strv (s : ByteArray) : Value := .iface 78 (.string s)

set_option maxHeartbeats 400000 in
theorem reads_nil (w : World) : Calls Tryz.prog 23 #[nilw] w fun e w' => e = .returned (.bool true) ∧ w = w' := by
  unfold nilw
  go_enter Tryz.func23, Tryz.ntmps23
  go_wp2_with fail
  refine (nil_type _).mono ?_
  rintro e w' ⟨rfl, rfl⟩
  go_wp2
  go_ret
  exact ⟨rfl, rfl⟩
set_option maxHeartbeats 400000 in
theorem str_type (s : ByteArray) (w : World) : Calls Tryz.prog 232 #[.string s] w fun e w' => e = .returned (.int .i64 3) ∧ w = w' := by
  go_enter Tryz.func232, Tryz.ntmps232
  go_wp2
  go_ret
  exact ⟨rfl, rfl⟩
set_option maxHeartbeats 400000 in
theorem str_string (s : ByteArray) (w : World) : Calls Tryz.prog 231 #[.string s] w fun e w' => e = .returned (.string s) ∧ w = w' := by
  go_enter Tryz.func231, Tryz.ntmps231
  go_wp2
  go_ret
  exact ⟨rfl, rfl⟩
set_option maxHeartbeats 400000 in
theorem reads_string (s : ByteArray) (w : World) : Calls Tryz.prog 61 #[strv s, .string s] w fun e w' => e = .returned (.bool true) ∧ w = w' := by
  unfold strv
  go_enter Tryz.func61, Tryz.ntmps61
  go_wp2_with fail
  refine (str_type s _).mono ?_
  rintro e w' ⟨rfl, rfl⟩
  go_wp2_with fail
  refine (str_string s _).mono ?_
  rintro e w' ⟨rfl, rfl⟩
  go_wp2
  go_ret
  exact ⟨rfl, rfl⟩

/-- A boxed operation, cell by cell. -/
theorem box_rop (o : Rop) (w : World) : (w.alloc (.cells o.cells.toArray 28)).cell? ⟨w.heap.size, 0, none⟩ = some (.bool o.s) ∧ (w.alloc (.cells o.cells.toArray 28)).cell? ⟨w.heap.size, 1, none⟩ = some (.float .f64 o.n) ∧ (w.alloc (.cells o.cells.toArray 28)).cell? ⟨w.heap.size, 2, none⟩ = some (.string o.k) ∧ (w.alloc (.cells o.cells.toArray 28)).cell? ⟨w.heap.size, 3, none⟩ = some (.string o.v) ∧ (w.alloc (.cells o.cells.toArray 28)).cell? ⟨w.heap.size, 4, none⟩ = some (.bool o.d) :=
  ⟨(Blk.new w o.cells 28).at (o := 0) rfl, (Blk.new w o.cells 28).at (o := 1) rfl, (Blk.new w o.cells 28).at (o := 2) rfl, (Blk.new w o.cells 28).at (o := 3) rfl, (Blk.new w o.cells 28).at (o := 4) rfl⟩

theorem l_set_op (L : Option Addr) (o : Rop) (t : Tbs) (mt : Value) (S : St) (ks : List Value) (ix : List MapEntry) (w : World) (ho : Sto o) (hkl : ks.length ≤ 1048576) (hl : S.arr.length ≤ 65536) (h : Tab w t mt S ks ix) :
    Calls Tryz.prog 59 #[.pointer L, .pointer (some ⟨t.T, 0, none⟩), kval o.key, o.val] w (SetKey t mt S ks o.key o.val w) := by
  unfold Rop.key
  cases hs : o.s with
  | true => exact (l_set_str L t mt S ks ix o.k o.val o.d w o.val_val hkl h).mono (fun _ _ hp => hp.key o.val_val)
  | false => exact l_set_num L t mt S ks ix o.n o.val o.d w o.val_val (ho hs).1 (ho hs).2 hkl hl h
theorem l_get_op (L : Option Addr) (o : Rop) (t : Tbs) (mt : Value) (S : St) (ks : List Value) (ix : List MapEntry) (w : World) (h : Tab w t mt S ks ix) :
    Calls Tryz.prog 20 #[.pointer L, .pointer (some ⟨t.T, 0, none⟩), kval o.key] w fun e w' => e = .returned (holds S o.key) ∧ Upd (fun _ => False) w w' := by
  unfold Rop.key
  cases hs : o.s with
  | true => exact (l_get_str L t mt S ks ix o.k w h).mono (fun e w' hp => ⟨hp.1, by rw [← hp.2]; exact Upd.refl _ _⟩)
  | false => exact (l_get_num L t mt S ks ix o.n w h).mono (fun e w' ⟨n, h1, h2⟩ => ⟨h1, by rw [h2]; exact (Upd.refl _ _).drewN n⟩)

set_option maxHeartbeats 800000 in
theorem raw_set_op (L : Option Addr) (o : Rop) (t : Tbs) (mt : Value) (S : St) (ks : List Value) (ix : List MapEntry) (w : World) (ho : Sto o) (hkl : ks.length ≤ 1048576) (hl : S.arr.length ≤ 65536) (h : Tab w t mt S ks ix) :
    Calls Tryz.prog 16 #[.pointer L, .pointer (some ⟨t.T, 0, none⟩), .agg o.cells.toArray] w (SetKey t mt S ks o.key o.val w) := by
  have U0 := Lib.hid (show Upd (fun _ => False) w (w.alloc (.cells o.cells.toArray 28)) from (Upd.refl _ _).alloc _)
  obtain ⟨q0, q1, q2, q3, q4⟩ := box_rop o w
  have C := l_set_op L o t mt S ks ix _ ho hkl hl (h.upd U0.out (fun _ _ h => h))
  clear h ho hkl hl
  cases hs : o.s with
  | true =>
    cases hd : o.d with
    | true =>
      have hk : kval o.key = .iface 78 (.string o.k) := by unfold Rop.key; rw [hs]; rfl
      have hv : o.val = .iface 69 (.int .u8 0) := by unfold Rop.val; rw [hd]; rfl
      rw [hs] at q0
      rw [hd] at q4
      rw [hk] at C
      have C2 := Lib.hid (show Calls Tryz.prog 59 #[.pointer L, .pointer (some ⟨t.T, 0, none⟩), .iface 78 (.string o.k), .iface 69 (.int .u8 0)] (w.alloc (.cells o.cells.toArray 28)) (SetKey t mt S ks o.key o.val (w.alloc (.cells o.cells.toArray 28))) by rw [← hv]; exact C)
      clear C hk hv hs hd
      go_enter Tryz.func16, Tryz.ntmps16
      go_wp2_with fail
      refine C2.out.mono ?_
      rintro e w' hp
      obtain rfl : e = .returned (.tuple #[]) := hp.1
      have HP := Lib.hid (hp.from U0.out)
      clear hp C2
      go_wp2
      go_end0
      exact HP.out
    | false =>
      have hk : kval o.key = .iface 78 (.string o.k) := by unfold Rop.key; rw [hs]; rfl
      have hv : o.val = .iface 78 (.string o.v) := by unfold Rop.val; rw [hd]; rfl
      rw [hs] at q0
      rw [hd] at q4
      rw [hk] at C
      have C2 := Lib.hid (show Calls Tryz.prog 59 #[.pointer L, .pointer (some ⟨t.T, 0, none⟩), .iface 78 (.string o.k), .iface 78 (.string o.v)] (w.alloc (.cells o.cells.toArray 28)) (SetKey t mt S ks o.key o.val (w.alloc (.cells o.cells.toArray 28))) by rw [← hv]; exact C)
      clear C hk hv hs hd
      go_enter Tryz.func16, Tryz.ntmps16
      go_wp2_with fail
      refine C2.out.mono ?_
      rintro e w' hp
      obtain rfl : e = .returned (.tuple #[]) := hp.1
      have HP := Lib.hid (hp.from U0.out)
      clear hp C2
      go_wp2
      go_end0
      exact HP.out
  | false =>
    cases hd : o.d with
    | true =>
      have hk : kval o.key = .iface 53 (.float .f64 o.n) := by unfold Rop.key; rw [hs]; rfl
      have hv : o.val = .iface 69 (.int .u8 0) := by unfold Rop.val; rw [hd]; rfl
      rw [hs] at q0
      rw [hd] at q4
      rw [hk] at C
      have C2 := Lib.hid (show Calls Tryz.prog 59 #[.pointer L, .pointer (some ⟨t.T, 0, none⟩), .iface 53 (.float .f64 o.n), .iface 69 (.int .u8 0)] (w.alloc (.cells o.cells.toArray 28)) (SetKey t mt S ks o.key o.val (w.alloc (.cells o.cells.toArray 28))) by rw [← hv]; exact C)
      clear C hk hv hs hd
      go_enter Tryz.func16, Tryz.ntmps16
      go_wp2_with fail
      refine C2.out.mono ?_
      rintro e w' hp
      obtain rfl : e = .returned (.tuple #[]) := hp.1
      have HP := Lib.hid (hp.from U0.out)
      clear hp C2
      go_wp2
      go_end0
      exact HP.out
    | false =>
      have hk : kval o.key = .iface 53 (.float .f64 o.n) := by unfold Rop.key; rw [hs]; rfl
      have hv : o.val = .iface 78 (.string o.v) := by unfold Rop.val; rw [hd]; rfl
      rw [hs] at q0
      rw [hd] at q4
      rw [hk] at C
      have C2 := Lib.hid (show Calls Tryz.prog 59 #[.pointer L, .pointer (some ⟨t.T, 0, none⟩), .iface 53 (.float .f64 o.n), .iface 78 (.string o.v)] (w.alloc (.cells o.cells.toArray 28)) (SetKey t mt S ks o.key o.val (w.alloc (.cells o.cells.toArray 28))) by rw [← hv]; exact C)
      clear C hk hv hs hd
      go_enter Tryz.func16, Tryz.ntmps16
      go_wp2_with fail
      refine C2.out.mono ?_
      rintro e w' hp
      obtain rfl : e = .returned (.tuple #[]) := hp.1
      have HP := Lib.hid (hp.from U0.out)
      clear hp C2
      go_wp2
      go_end0
      exact HP.out

set_option maxHeartbeats 800000 in
theorem raw_get_op (L : Option Addr) (o : Rop) (t : Tbs) (mt : Value) (S : St) (ks : List Value) (ix : List MapEntry) (w : World) (h : Tab w t mt S ks ix) :
    Calls Tryz.prog 18 #[.pointer L, .pointer (some ⟨t.T, 0, none⟩), .agg o.cells.toArray] w fun e w' => e = .returned (holds S o.key) ∧ Upd (fun _ => False) w w' := by
  have U0 := Lib.hid (show Upd (fun _ => False) w (w.alloc (.cells o.cells.toArray 28)) from (Upd.refl _ _).alloc _)
  obtain ⟨q0, q1, q2, q3, q4⟩ := box_rop o w
  have C := l_get_op L o t mt S ks ix _ (h.upd U0.out (fun _ _ h => h))
  generalize holds S o.key = hv at C ⊢
  clear h
  cases hs : o.s with
  | true =>
    have hk : kval o.key = .iface 78 (.string o.k) := by unfold Rop.key; rw [hs]; rfl
    rw [hs] at q0
    rw [hk] at C
    have C2 := Lib.hid C
    clear C hk hs
    go_enter Tryz.func18, Tryz.ntmps18
    go_wp2_with fail
    refine C2.out.mono ?_
    rintro e w' ⟨rfl, hu⟩
    have UU := Lib.hid (U0.out.trans hu)
    clear hu C2
    go_wp2
    go_ret
    exact ⟨rfl, UU.out⟩
  | false =>
    have hk : kval o.key = .iface 53 (.float .f64 o.n) := by unfold Rop.key; rw [hs]; rfl
    rw [hs] at q0
    rw [hk] at C
    have C2 := Lib.hid C
    clear C hk hs
    go_enter Tryz.func18, Tryz.ntmps18
    go_wp2_with fail
    refine C2.out.mono ?_
    rintro e w' ⟨rfl, hu⟩
    have UU := Lib.hid (U0.out.trans hu)
    clear hu C2
    go_wp2
    go_ret
    exact ⟨rfl, UU.out⟩

set_option maxHeartbeats 800000 in
theorem same_key (a b : Rop) (w : World) : Calls Tryz.prog 60 #[.agg a.cells.toArray, .agg b.cells.toArray] w fun e w' => e = .returned (.bool (keq a.key b.key)) ∧ Upd (fun _ => False) w w' := by
  have U0 := Lib.hid (show Upd (fun _ => False) w ((w.alloc (.cells a.cells.toArray 28)).alloc (.cells b.cells.toArray 28)) from ((Upd.refl _ _).alloc _).alloc _)
  have hB := (Blk.new w a.cells 28).alloc (.cells b.cells.toArray 28)
  have hC := Blk.new_at (w := w.alloc (.cells a.cells.toArray 28)) (b := w.heap.size + 1) (by simp) b.cells 28
  have p0 := hB.at (o := 0) (v := .bool a.s) rfl
  have p1 := hB.at (o := 1) (v := .float .f64 a.n) rfl
  have p2 := hB.at (o := 2) (v := .string a.k) rfl
  have q0 := hC.at (o := 0) (v := .bool b.s) rfl
  have q1 := hC.at (o := 1) (v := .float .f64 b.n) rfl
  have q2 := hC.at (o := 2) (v := .string b.k) rfl
  clear hB hC
  cases ha : a.s with
  | true =>
    cases hb : b.s with
    | true =>
      have KE := Lib.hid (show keq a.key b.key = (a.k.toList == b.k.toList) by unfold Rop.key; rw [ha, hb]; exact (list_beq a.k b.k).symm)
      rw [ha] at p0
      rw [hb] at q0
      clear ha hb
      go_enter Tryz.func60, Tryz.ntmps60
      go_wp2
      go_ret
      exact ⟨by rw [KE.out]; rfl, U0.out⟩
    | false =>
      have KE := Lib.hid (show keq a.key b.key = false by unfold Rop.key; rw [ha, hb]; rfl)
      rw [ha] at p0
      rw [hb] at q0
      clear ha hb
      go_enter Tryz.func60, Tryz.ntmps60
      go_wp2
      go_ret
      exact ⟨by rw [KE.out]; rfl, U0.out⟩
  | false =>
    cases hb : b.s with
    | true =>
      have KE := Lib.hid (show keq a.key b.key = false by unfold Rop.key; rw [ha, hb]; rfl)
      rw [ha] at p0
      rw [hb] at q0
      clear ha hb
      go_enter Tryz.func60, Tryz.ntmps60
      go_wp2
      go_ret
      exact ⟨by rw [KE.out]; rfl, U0.out⟩
    | false =>
      have KE := Lib.hid (show keq a.key b.key = (FloatKind.f64.format.order a.n b.n == some .eq) by unfold Rop.key; rw [ha, hb]; rfl)
      rw [ha] at p0
      rw [hb] at q0
      clear ha hb
      go_enter Tryz.func60, Tryz.ntmps60
      go_wp2
      go_ret
      exact ⟨by rw [KE.out]; rfl, U0.out⟩

/-- What a script of operations leaves at a key. -/
def ran (f : Nat → Rop) (n : Nat) (q : Key) : Value := Last.run keq (fun _ => nilw) (fun i => (f i).key) (fun i => (f i).val) n q

set_option maxHeartbeats 3200000 in
theorem model_reads (a : Option Addr) (n c : Nat) (f : Nat → Rop) (p : Rop) (B : Nat) (w : World) (hn : n ≤ 4096) (hops : Rops w B a n f) :
    Calls Tryz.prog 17 #[.slice a n c, .agg p.cells.toArray, ran f n p.key] w fun e w' => e = .returned (.bool true) ∧ Upd (fun _ => False) w w' := by
  have HO := Lib.hid hops
  obtain ⟨gv, hg⟩ : ∃ gv, gv = ran f n p.key := ⟨_, rfl⟩
  rw [← hg]
  have HG := Lib.hid hg
  clear hops hg
  have hw1 : IntKind.i64.wrap ((n : Int) - 1) = (n : Int) - 1 := IntWalk.i64_in _ (by omega)
  go_enter Tryz.func17, Tryz.ntmps17
  go_wp2
  go_loopw [7] (fun iv wr => ∃ m : Nat, m ≤ n ∧ iv = .int .i64 ((m : Int) - 1) ∧ Upd (fun _ => False) w wr ∧ Blk wr w.heap.size p.cells 28 ∧ ∀ j, m ≤ j → j < n → keq p.key (f j).key = false) (fun iv _ => (intOf iv + 1).toNat)
  case atStart => exact ⟨n, Nat.le_refl _, rfl, (Upd.refl _ _).alloc _, Blk.new _ _ _, fun j h1 h2 => absurd h1 (by omega)⟩
  case round =>
    obtain ⟨m, hm, rfl, hu, hb, hs⟩ := hrel
    have HU := Lib.hid hu
    have HB := Lib.hid hb
    have HS := Lib.hid hs
    clear hu hb hs
    cases m with
    | zero =>
      have hgn := HG.out
      have hn0 : Last.last keq (fun i => (f i).key) p.key n = none := (Last.last_none keq).2 (fun i hi => HS.out i (Nat.zero_le _) hi)
      unfold ran at hgn
      rw [Last.run_last, hn0] at hgn
      have hgn : gv = nilw := hgn
      clear hn0 HG
      subst hgn
      go_wp2_with fail
      refine (reads_nil _).mono ?_
      rintro e w' ⟨rfl, rfl⟩
      go_wp2
      go_ret
      exact ⟨rfl, HU.out⟩
    | succ j =>
      have hj : ((j + 1 : Nat) : Int) - 1 = (j : Int) := by omega
      rw [hj]
      have i1 : (0 : Int) ≤ (j : Int) := by omega
      have i2 : (j : Int) < (n : Int) := by omega
      have hw2 : IntKind.i64.wrap ((j : Int) - 1) = (j : Int) - 1 := IntWalk.i64_in _ (by omega)
      obtain ⟨b, off, rfl, hr, -⟩ := (HO.out.upd HU.out (fun c h => h.elim)).row (j := j) (by omega)
      clear hj
      have HR := Lib.hid hr
      clear hr
      go_wp2_with fail
      refine wp_region_tail_at 5 (by kernel_rfl) (by kernel_rfl) (fun W1 hW1 => ?_)
      have UW := Lib.hid (show Upd (fun _ => False) wr W1 by rw [hW1]; exact (Upd.refl _ _).drew)
      have R1 := Lib.hid (show W1.rangeAt b (off + j * 5) (f j).cells by rw [hW1]; exact HR.out)
      have B1 := Lib.hid (show Blk W1 w.heap.size p.cells 28 by rw [hW1]; exact HB.out)
      clear hW1
      simp only [List.take_succ_cons, List.take_zero, List.drop_succ_cons, List.drop_zero]
      repeat still_step
      refine wpStill_load_mid rfl 28 (.tmp 17) rfl b (off + j * 5) rfl (f j).cells _ R1.out Tryz.underlying28 rfl info_rop ?_
      repeat still_step
      refine wpStill_load_mid rfl 28 (.tmp 4) rfl w.heap.size 0 rfl p.cells _ (B1.out.range 0 _ (fun j _ => by rw [Nat.zero_add])) Tryz.underlying28 rfl info_rop ?_
      repeat still_step
      refine wpStill_nil ?_
      go_wp2_with fail
      refine (same_key (f j) p _).mono ?_
      rintro e w2 ⟨rfl, hu2⟩
      have U2 := Lib.hid (HU.out.trans (UW.out.trans hu2))
      have B2 := Lib.hid (hu2.blk B1.out (fun h => h))
      clear hu2
      cases hk : keq (f j).key p.key with
      | false =>
        have hk2 : keq p.key (f j).key = false := by rw [keq_comm]; exact hk
        have HK := Lib.hid hk2
        clear hk hk2
        go_wp2
        go_roundw
        case rel => exact ⟨j, by omega, rfl, U2.out, B2.out, fun i h1 h2 => by
          by_cases e : i = j
          · subst e; exact HK.out
          · exact HS.out i (by omega) h2⟩
        case measure => simp [intOf]
      | true =>
        have hk2 : keq p.key (f j).key = true := by rw [keq_comm]; exact hk
        have hgn := HG.out
        have hn0 : Last.last keq (fun i => (f i).key) p.key n = some j := Last.last_some keq (by omega) hk2 (fun i h1 h2 => HS.out i (by omega) h2)
        unfold ran at hgn
        rw [Last.run_last, hn0] at hgn
        have hgn : gv = (f j).val := hgn
        clear hn0 HG hk hk2
        subst hgn
        obtain ⟨b', off', he, hr2, r0, r1, r2, r3, r4⟩ := (HO.out.upd U2.out (fun c h => h.elim)).row (j := j) (by omega)
        cases he
        clear hr2
        cases hd : (f j).d with
        | true =>
          rw [hd] at r4
          have hv : (f j).val = nilw := by unfold Rop.val; rw [hd]; rfl
          rw [hv]
          clear hv hd
          go_wp2_with fail
          refine (reads_nil _).mono ?_
          rintro e w' ⟨rfl, rfl⟩
          go_wp2
          go_ret
          exact ⟨rfl, U2.out⟩
        | false =>
          rw [hd] at r4
          have hv : (f j).val = strv (f j).v := by unfold Rop.val; rw [hd]; rfl
          rw [hv]
          clear hv hd
          go_wp2_with fail
          refine (reads_string (f j).v _).mono ?_
          rintro e w' ⟨rfl, rfl⟩
          go_wp2
          go_ret
          exact ⟨rfl, U2.out⟩
end Go.Proofs.YtlmadbgpllokfaaGreatFmt
