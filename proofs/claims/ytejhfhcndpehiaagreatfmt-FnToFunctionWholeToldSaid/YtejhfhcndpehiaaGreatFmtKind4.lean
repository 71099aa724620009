/- The state of the n005_62 laws, built: walked. -/
import Derived.Test.YtejhfhcndpehiaaGreatFmtKind3
import Derived.Test.YtejhfhcndpehiaaGreatFmtClones
namespace Go.Proofs.YtejhfhcndpehiaaGreatFmt
open Go.RowKit
set_option maxRecDepth 100000

def fn0 : List Value := [.bool false, .pointer none, .pointer none, .nilFunc, .slice none 0 0]
def ud0 : List Value := [.nilIface, .pointer none, .nilIface]

theorem mkSTab (k : Nat) (hk : k ≤ 1048576) (w : World) : (Instr.makeSlice 26 (.int .i64 (k : Int)) (.int .i64 (k : Int))).run Tryz.prog w = .ok (.slice (some ⟨w.heap.size, 0, none⟩) k k) (w.alloc (.cells (tab k fun _ => Value.pointer none).toArray 34)) := by
  have h := run_made (P := Tryz.prog) 26 34 (.pointer none) 8 Tryz.underlying26 (by kernel_rfl) (by decide) k (by omega) (by omega) w
  rw [show ((List.replicate k (Value.pointer none).cells.toList).flatten) = tab k fun _ => Value.pointer none by
    rw [← tab_rep]; show (List.replicate k [Value.pointer none]).flatten = _; simp] at h
  exact h

theorem mkSFn (k : Nat) (hk : k ≤ 1048576) (w : World) : (Instr.makeSlice 27 (.int .i64 (k : Int)) (.int .i64 (k : Int))).run Tryz.prog w = .ok (.slice (some ⟨w.heap.size, 0, none⟩) k k) (w.alloc (.cells (tab k fun _ => Value.pointer none).toArray 36)) := by
  have h := run_made (P := Tryz.prog) 27 36 (.pointer none) 8 Tryz.underlying27 (by kernel_rfl) (by decide) k (by omega) (by omega) w
  rw [show ((List.replicate k (Value.pointer none).cells.toList).flatten) = tab k fun _ => Value.pointer none by
    rw [← tab_rep]; show (List.replicate k [Value.pointer none]).flatten = _; simp] at h
  exact h

theorem mkSUd (k : Nat) (hk : k ≤ 1048576) (w : World) : (Instr.makeSlice 28 (.int .i64 (k : Int)) (.int .i64 (k : Int))).run Tryz.prog w = .ok (.slice (some ⟨w.heap.size, 0, none⟩) k k) (w.alloc (.cells (tab k fun _ => Value.pointer none).toArray 38)) := by
  have h := run_made (P := Tryz.prog) 28 38 (.pointer none) 8 Tryz.underlying28 (by kernel_rfl) (by decide) k (by omega) (by omega) w
  rw [show ((List.replicate k (Value.pointer none).cells.toList).flatten) = tab k fun _ => Value.pointer none by
    rw [← tab_rep]; show (List.replicate k [Value.pointer none]).flatten = _; simp] at h
  exact h

theorem mkSTh (k : Nat) (hk : k ≤ 1048576) (w : World) : (Instr.makeSlice 29 (.int .i64 (k : Int)) (.int .i64 (k : Int))).run Tryz.prog w = .ok (.slice (some ⟨w.heap.size, 0, none⟩) k k) (w.alloc (.cells (tab k fun _ => Value.pointer none).toArray 25)) := by
  have h := run_made (P := Tryz.prog) 29 25 (.pointer none) 8 Tryz.underlying29 (by kernel_rfl) (by decide) k (by omega) (by omega) w
  rw [show ((List.replicate k (Value.pointer none).cells.toList).flatten) = tab k fun _ => Value.pointer none by
    rw [← tab_rep]; show (List.replicate k [Value.pointer none]).flatten = _; simp] at h
  exact h

/-- What stands when j values are pushed. -/
structure Bld (w wr : World) (S G R A RT GT Tb Fb Ub Hb k j : Nat) (K o : Nat → Nat) (x : Nat → Value) : Prop where
  upd : Upd (fun _ => False) w wr
  old : w.heap.size ≤ G
  ord : S < Tb ∧ Tb < Fb ∧ Fb < Ub ∧ Ub < Hb
  st : Sta wr S G R A RT GT GT k j (fun m => if m < j then item (K m) (o m) (x m) else .nilIface)
  tb : Blk wr Tb (tab k fun m => .pointer (if m < j then pick 2 (K m) (o m) else none)) 34
  fb : Blk wr Fb (tab k fun m => .pointer (if m < j then pick 3 (K m) (o m) else none)) 36
  ub : Blk wr Ub (tab k fun m => .pointer (if m < j then pick 4 (K m) (o m) else none)) 38
  hb : Blk wr Hb (tab k fun m => .pointer (if m < j then pick 5 (K m) (o m) else none)) 25

theorem Bld.drewN {w wr : World} {S G R A RT GT Tb Fb Ub Hb k j : Nat} {K o : Nat → Nat} {x : Nat → Value} (h : Bld w wr S G R A RT GT Tb Fb Ub Hb k j K o x) (n : Nat) : Bld w (wr.drewN n) S G R A RT GT Tb Fb Ub Hb k j K o x :=
  ⟨h.upd.drewN n, h.old, h.ord, ⟨h.st.ord, h.st.st, h.st.g, h.st.rg, h.st.ar⟩, h.tb, h.fb, h.ub, h.hb⟩

theorem Bld.next {w wr w' : World} {S G R A RT GT Tb Fb Ub Hb k j : Nat} {K o : Nat → Nat} {x : Nat → Value} (h : Bld w wr S G R A RT GT Tb Fb Ub Hb k j K o x) (ob : Nat) (xv : Value) {T : Nat → Prop}
    (hu : Upd T wr w') (hT : ∀ c, T c → w.heap.size ≤ c)
    (hs : Sta w' S G R A RT GT GT k (j + 1) (fun m => if m = j then item (K j) ob xv else if m < j then item (K m) (o m) (x m) else .nilIface))
    (h2 : Blk w' Tb (tab k fun m => .pointer (if m = j then pick 2 (K j) ob else if m < j then pick 2 (K m) (o m) else none)) 34)
    (h3 : Blk w' Fb (tab k fun m => .pointer (if m = j then pick 3 (K j) ob else if m < j then pick 3 (K m) (o m) else none)) 36)
    (h4 : Blk w' Ub (tab k fun m => .pointer (if m = j then pick 4 (K j) ob else if m < j then pick 4 (K m) (o m) else none)) 38)
    (h5 : Blk w' Hb (tab k fun m => .pointer (if m = j then pick 5 (K j) ob else if m < j then pick 5 (K m) (o m) else none)) 25)
    : Bld w w' S G R A RT GT Tb Fb Ub Hb k (j + 1) K (fun m => if m = j then ob else o m) (fun m => if m = j then xv else x m) := by
  have e : ∀ m, (if m = j then item (K j) ob xv else if m < j then item (K m) (o m) (x m) else .nilIface) = if m < j + 1 then item (K m) (if m = j then ob else o m) (if m = j then xv else x m) else .nilIface := fun m => by
    by_cases e : m = j
    · subst e; rw [if_pos rfl, if_pos (by omega), if_pos rfl, if_pos rfl]
    · rw [if_neg e, if_neg e, if_neg e]
      by_cases e2 : m < j
      · rw [if_pos e2, if_pos (by omega)]
      · rw [if_neg e2, if_neg (by omega)]
  have p : ∀ T m, (if m = j then pick T (K j) ob else if m < j then pick T (K m) (o m) else none) = if m < j + 1 then pick T (K m) (if m = j then ob else o m) else none := fun T m => by
    by_cases e : m = j
    · subst e; rw [if_pos rfl, if_pos (by omega), if_pos rfl]
    · rw [if_neg e, if_neg e]
      by_cases e2 : m < j
      · rw [if_pos e2, if_pos (by omega)]
      · rw [if_neg e2, if_neg (by omega)]
  simp only [e] at hs
  simp only [p] at h2 h3 h4 h5
  exact ⟨h.upd.trans_new hu hT, h.old, h.ord, hs, h2, h3, h4, h5⟩

theorem keep_pick {w' : World} {B k j ob : Nat} {t : TypeId} {T : Nat} {K o : Nat → Nat} (hne : K j ≠ T) (h : Blk w' B (tab k fun m => .pointer (if m < j then pick T (K m) (o m) else none)) t) :
    Blk w' B (tab k fun m => .pointer (if m = j then pick T (K j) ob else if m < j then pick T (K m) (o m) else none)) t := by
  have e : (tab k fun m => Value.pointer (if m = j then pick T (K j) ob else if m < j then pick T (K m) (o m) else none)) = tab k fun m => Value.pointer (if m < j then pick T (K m) (o m) else none) := tab_congr fun m _ => by
    by_cases e : m = j
    · subst e; rw [if_pos rfl, if_neg (Nat.lt_irrefl _), pick, if_neg hne]
    · rw [if_neg e]
  rw [e]
  exact h

theorem put_pick {w' : World} {B k j ob : Nat} {t : TypeId} {T : Nat} {K o : Nat → Nat} (he : K j = T) (h : Blk w' B ((tab k fun m => .pointer (if m < j then pick T (K m) (o m) else none)).set j (.pointer (some ⟨ob, 0, none⟩))) t) :
    Blk w' B (tab k fun m => .pointer (if m = j then pick T (K j) ob else if m < j then pick T (K m) (o m) else none)) t := by
  rw [tab_set] at h
  have e : (tab k fun m => Value.pointer (if m = j then pick T (K j) ob else if m < j then pick T (K m) (o m) else none)) = tab k fun m => if m = j then Value.pointer (some ⟨ob, 0, none⟩) else Value.pointer (if m < j then pick T (K m) (o m) else none) := tab_congr fun m _ => by
    by_cases e : m = j
    · subst e; rw [if_pos rfl, if_pos rfl, pick, if_pos he]
    · rw [if_neg e, if_neg e]
  rw [e]
  exact h

set_option maxHeartbeats 3200000 in
theorem build (aK : Option Addr) (k cK : Nat) (f : Nat → Int) (w : World) (hk : k ≤ 65536) (hf : ∀ j, j < k → 0 ≤ f j ∧ f j ≤ 255) (hK : Cells w aK k fun j => .int .u8 (f j)) :
    Calls Tryz.prog 15 #[.slice aK k cK] w fun e w' => ∃ S G R A RT GT Tb Fb Ub Hb o x, e = .returned (.tuple #[.pointer (some ⟨S, 0, none⟩), .slice (some ⟨Tb, 0, none⟩) k k, .slice (some ⟨Fb, 0, none⟩) k k, .slice (some ⟨Ub, 0, none⟩) k k, .slice (some ⟨Hb, 0, none⟩) k k]) ∧
      Bld w w' S G R A RT GT Tb Fb Ub Hb k k (fun m => (f m % 6).toNat) o x := by
  have HK := Lib.hid hK
  have HF := Lib.hid hf
  clear hK hf
  have m2 := mkSTab k (by omega)
  have m3 := mkSFn k (by omega)
  have m4 := mkSUd k (by omega)
  have m5 := mkSTh k (by omega)
  go_enter Tryz.func15, Tryz.ntmps15
  go_wp2_with fail
  refine (new_state k _ hk).mono ?_
  rintro e w1 ⟨rfl, hu, hz, hs⟩
  have U1 := Lib.hid hu
  have Z1 := Lib.hid hz
  have S1 := Lib.hid hs
  have hG : w.heap.size ≤ w.heap.size + 2 := by omega
  generalize w.heap.size + 5 = S at *
  generalize w.heap.size + 2 = G at *
  generalize w.heap.size + 4 = R at *
  generalize w.heap.size + 3 = A at *
  generalize w.heap.size + 1 = GT at *
  clear hu hz hs
  go_wp2_with fail
  obtain ⟨Tb, hTb⟩ : ∃ Tb, w1.heap.size = Tb := ⟨_, rfl⟩
  rw [hTb]
  have hST : S < Tb := by rw [← hTb]; exact S1.out.st.lt
  have HTb := Lib.hid hTb
  clear hTb
  go_loopw [13] (fun i wr => ∃ (j : Nat) (o : Nat → Nat) (x : Nat → Value), j ≤ k ∧ i = .int .i64 j ∧ Bld w wr S G R A w.heap.size GT Tb (Tb + 1) (Tb + 1 + 1) (Tb + 1 + 1 + 1) k j (fun m => (f m % 6).toNat) o x) (fun i _ => k - (intOf i).toNat)
  case atStart =>
    have z := HTb.out
    refine ⟨0, fun _ => 0, fun _ => .nilIface, Nat.zero_le _, rfl, (((U1.out.alloc _).alloc _).alloc _).alloc _, hG, by omega, ?_, ?_, ?_, ?_, ?_⟩
    · have e : (fun m => if m < 0 then item (f m % 6).toNat 0 Value.nilIface else Value.nilIface) = fun _ => Value.nilIface := by funext m; rw [if_neg (by omega)]
      rw [e]
      exact S1.out.upd (T := fun _ => False) (((((Upd.refl _ _).alloc _).alloc _).alloc _).alloc _) (fun c h => h.elim)
    all_goals simp only [Nat.not_lt_zero, if_false]
    · exact (((Blk.new_at z.symm _ _).alloc _).alloc _).alloc _
    · exact ((Blk.new_at (by simp [z]) _ _).alloc _).alloc _
    · exact (Blk.new_at (by simp [z]) _ _).alloc _
    · exact Blk.new_at (by simp [z]) _ _
  case round =>
    obtain ⟨j, o, x, hj, rfl, hB⟩ := hrel
    have HB := Lib.hid hB
    clear hB
    by_cases hlt : j < k
    · obtain ⟨b, off, rfl, hc⟩ := (HK.out.upd HB.out.upd).one hlt
      have hf := HF.out j hlt
      have h6 : f j % 6 = 0 ∨ f j % 6 = 1 ∨ f j % 6 = 2 ∨ f j % 6 = 3 ∨ f j % 6 = 4 ∨ f j % 6 = 5 := by omega
      have hsz : Tb + 1 + 1 + 1 < wr.heap.size := HB.out.hb.lt
      have hz0 : Tb < wr.heap.size := by omega
      have hz1 : Tb + 1 < wr.heap.size := by omega
      have hz2 : Tb + 1 + 1 < wr.heap.size := by omega
      have ord := HB.out.st.ord
      have old := HB.out.old
      rcases h6 with h | h | h | h | h | h
      · -- kind 0
        go_wp2_with fail
        refine (st_push S G R A w.heap.size GT GT k j 95 (.float .f64 (FloatKind.f64.nearest (j : Int))) _ _ hlt hk HB.out.st).mono ?_
        rintro e w' ⟨rfl, hu, hs⟩
        have HN := Lib.hid (HB.out.next (w' := w') 0 (.float .f64 (FloatKind.f64.nearest (j : Int))) hu (by rintro c (rfl | rfl) <;> omega) (by rw [h]; exact hs) (keep_pick (K := fun m => (f m % 6).toNat) (by show (f j % 6).toNat ≠ 2; rw [h]; decide) (hu.blk HB.out.tb (by omega))) (keep_pick (K := fun m => (f m % 6).toNat) (by show (f j % 6).toNat ≠ 3; rw [h]; decide) (hu.blk HB.out.fb (by omega))) (keep_pick (K := fun m => (f m % 6).toNat) (by show (f j % 6).toNat ≠ 4; rw [h]; decide) (hu.blk HB.out.ub (by omega))) (keep_pick (K := fun m => (f m % 6).toNat) (by show (f j % 6).toNat ≠ 5; rw [h]; decide) (hu.blk HB.out.hb (by omega))))
        clear hu hs h
        go_wp2
        go_roundw
        case rel => exact ⟨j + 1, _, _, by omega, by go_num, HN.out⟩
        case measure => simp [intOf]; omega
      · -- kind 1
        go_wp2_with fail
        refine (st_push S G R A w.heap.size GT GT k j 74 (.string ⟨#[115]⟩) _ _ hlt hk HB.out.st).mono ?_
        rintro e w' ⟨rfl, hu, hs⟩
        have HN := Lib.hid (HB.out.next (w' := w') 0 (.string ⟨#[115]⟩) hu (by rintro c (rfl | rfl) <;> omega) (by rw [h]; exact hs) (keep_pick (K := fun m => (f m % 6).toNat) (by show (f j % 6).toNat ≠ 2; rw [h]; decide) (hu.blk HB.out.tb (by omega))) (keep_pick (K := fun m => (f m % 6).toNat) (by show (f j % 6).toNat ≠ 3; rw [h]; decide) (hu.blk HB.out.fb (by omega))) (keep_pick (K := fun m => (f m % 6).toNat) (by show (f j % 6).toNat ≠ 4; rw [h]; decide) (hu.blk HB.out.ub (by omega))) (keep_pick (K := fun m => (f m % 6).toNat) (by show (f j % 6).toNat ≠ 5; rw [h]; decide) (hu.blk HB.out.hb (by omega))))
        clear hu hs h
        go_wp2
        go_roundw
        case rel => exact ⟨j + 1, _, _, by omega, by go_num, HN.out⟩
        case measure => simp [intOf]; omega
      · -- kind 2
        have hu1 : Upd (fun c => c = Tb) wr ((wr.setCell ⟨Tb, j, none⟩ (.pointer (some ⟨wr.heap.size, 0, none⟩))).alloc (.cells tab0.toArray 50)) := ((Upd.refl (fun c => c = Tb) _).setCell ⟨Tb, j, none⟩ _ (.inl rfl)).alloc _
        have c1 : wr.cell? ⟨Tb, j, none⟩ = some (.pointer none) := HB.out.tb.at (by rw [tab_in hlt, if_neg (Nat.lt_irrefl _)])
        have c2 := HB.out.tb.free j
        have HS := Lib.hid ((HB.out.tb.set j (.pointer (some ⟨wr.heap.size, 0, none⟩))).alloc (.cells tab0.toArray 50))
        have HU1 := Lib.hid hu1
        clear hu1
        go_wp2_with fail
        refine (st_push S G R A w.heap.size GT GT k j 34 (.pointer (some ⟨wr.heap.size, 0, none⟩)) _ _ hlt hk (HB.out.st.upd HU1.out (fun c e => by have e : c = _ := e; omega))).mono ?_
        rintro e w' ⟨rfl, hu, hs⟩
        have hu3 : Upd (fun c => c = Tb ∨ c = R ∨ c = A) wr w' := (HU1.out.mono (fun _ _ h => .inl h)).trans (hu.mono (fun _ _ h => .inr h))
        have HN := Lib.hid (HB.out.next (w' := w') wr.heap.size .nilIface hu3 (by rintro c (rfl | rfl | rfl) <;> omega) (by rw [h]; exact hs) (put_pick (K := fun m => (f m % 6).toNat) (by show (f j % 6).toNat = 2; rw [h]; rfl) (hu.blk HS.out (by omega))) (keep_pick (K := fun m => (f m % 6).toNat) (by show (f j % 6).toNat ≠ 3; rw [h]; decide) (hu.blk (HU1.out.blk HB.out.fb (by omega)) (by omega))) (keep_pick (K := fun m => (f m % 6).toNat) (by show (f j % 6).toNat ≠ 4; rw [h]; decide) (hu.blk (HU1.out.blk HB.out.ub (by omega)) (by omega))) (keep_pick (K := fun m => (f m % 6).toNat) (by show (f j % 6).toNat ≠ 5; rw [h]; decide) (hu.blk (HU1.out.blk HB.out.hb (by omega)) (by omega))))
        clear hu3
        clear hu hs h
        go_wp2
        go_roundw
        case rel => exact ⟨j + 1, _, _, by omega, by go_num, HN.out⟩
        case measure => simp [intOf]; omega
      · -- kind 3
        have hu1 : Upd (fun c => c = (Tb + 1)) wr ((wr.setCell ⟨(Tb + 1), j, none⟩ (.pointer (some ⟨wr.heap.size, 0, none⟩))).alloc (.cells fn0.toArray 81)) := ((Upd.refl (fun c => c = (Tb + 1)) _).setCell ⟨(Tb + 1), j, none⟩ _ (.inl rfl)).alloc _
        have c1 : wr.cell? ⟨(Tb + 1), j, none⟩ = some (.pointer none) := HB.out.fb.at (by rw [tab_in hlt, if_neg (Nat.lt_irrefl _)])
        have c2 := HB.out.fb.free j
        have HS := Lib.hid ((HB.out.fb.set j (.pointer (some ⟨wr.heap.size, 0, none⟩))).alloc (.cells fn0.toArray 81))
        have HU1 := Lib.hid hu1
        clear hu1
        go_wp2_with fail
        refine (st_push S G R A w.heap.size GT GT k j 36 (.pointer (some ⟨wr.heap.size, 0, none⟩)) _ _ hlt hk (HB.out.st.upd HU1.out (fun c e => by have e : c = _ := e; omega))).mono ?_
        rintro e w' ⟨rfl, hu, hs⟩
        have hu3 : Upd (fun c => c = (Tb + 1) ∨ c = R ∨ c = A) wr w' := (HU1.out.mono (fun _ _ h => .inl h)).trans (hu.mono (fun _ _ h => .inr h))
        have HN := Lib.hid (HB.out.next (w' := w') wr.heap.size .nilIface hu3 (by rintro c (rfl | rfl | rfl) <;> omega) (by rw [h]; exact hs) (keep_pick (K := fun m => (f m % 6).toNat) (by show (f j % 6).toNat ≠ 2; rw [h]; decide) (hu.blk (HU1.out.blk HB.out.tb (by omega)) (by omega))) (put_pick (K := fun m => (f m % 6).toNat) (by show (f j % 6).toNat = 3; rw [h]; rfl) (hu.blk HS.out (by omega))) (keep_pick (K := fun m => (f m % 6).toNat) (by show (f j % 6).toNat ≠ 4; rw [h]; decide) (hu.blk (HU1.out.blk HB.out.ub (by omega)) (by omega))) (keep_pick (K := fun m => (f m % 6).toNat) (by show (f j % 6).toNat ≠ 5; rw [h]; decide) (hu.blk (HU1.out.blk HB.out.hb (by omega)) (by omega))))
        clear hu3
        clear hu hs h
        go_wp2
        go_roundw
        case rel => exact ⟨j + 1, _, _, by omega, by go_num, HN.out⟩
        case measure => simp [intOf]; omega
      · -- kind 4
        have hu1 : Upd (fun c => c = (Tb + 1 + 1)) wr ((wr.setCell ⟨(Tb + 1 + 1), j, none⟩ (.pointer (some ⟨wr.heap.size, 0, none⟩))).alloc (.cells ud0.toArray 97)) := ((Upd.refl (fun c => c = (Tb + 1 + 1)) _).setCell ⟨(Tb + 1 + 1), j, none⟩ _ (.inl rfl)).alloc _
        have c1 : wr.cell? ⟨(Tb + 1 + 1), j, none⟩ = some (.pointer none) := HB.out.ub.at (by rw [tab_in hlt, if_neg (Nat.lt_irrefl _)])
        have c2 := HB.out.ub.free j
        have HS := Lib.hid ((HB.out.ub.set j (.pointer (some ⟨wr.heap.size, 0, none⟩))).alloc (.cells ud0.toArray 97))
        have HU1 := Lib.hid hu1
        clear hu1
        go_wp2_with fail
        refine (st_push S G R A w.heap.size GT GT k j 38 (.pointer (some ⟨wr.heap.size, 0, none⟩)) _ _ hlt hk (HB.out.st.upd HU1.out (fun c e => by have e : c = _ := e; omega))).mono ?_
        rintro e w' ⟨rfl, hu, hs⟩
        have hu3 : Upd (fun c => c = (Tb + 1 + 1) ∨ c = R ∨ c = A) wr w' := (HU1.out.mono (fun _ _ h => .inl h)).trans (hu.mono (fun _ _ h => .inr h))
        have HN := Lib.hid (HB.out.next (w' := w') wr.heap.size .nilIface hu3 (by rintro c (rfl | rfl | rfl) <;> omega) (by rw [h]; exact hs) (keep_pick (K := fun m => (f m % 6).toNat) (by show (f j % 6).toNat ≠ 2; rw [h]; decide) (hu.blk (HU1.out.blk HB.out.tb (by omega)) (by omega))) (keep_pick (K := fun m => (f m % 6).toNat) (by show (f j % 6).toNat ≠ 3; rw [h]; decide) (hu.blk (HU1.out.blk HB.out.fb (by omega)) (by omega))) (put_pick (K := fun m => (f m % 6).toNat) (by show (f j % 6).toNat = 4; rw [h]; rfl) (hu.blk HS.out (by omega))) (keep_pick (K := fun m => (f m % 6).toNat) (by show (f j % 6).toNat ≠ 5; rw [h]; decide) (hu.blk (HU1.out.blk HB.out.hb (by omega)) (by omega))))
        clear hu3
        clear hu hs h
        go_wp2
        go_roundw
        case rel => exact ⟨j + 1, _, _, by omega, by go_num, HN.out⟩
        case measure => simp [intOf]; omega
      · -- kind 5
        go_wp2_with fail
        refine (new_state 0 _ (by omega)).mono ?_
        rintro e w2 ⟨rfl, hu2, hz2, _⟩
        have HU2 := Lib.hid hu2
        clear hu2 hz2
        have ob : Nat := wr.heap.size + 5
        have c1 : w2.cell? ⟨(Tb + 1 + 1 + 1), j, none⟩ = some (.pointer none) := (HU2.out.blk HB.out.hb (fun h => h)).at (by rw [tab_in hlt, if_neg (Nat.lt_irrefl _)])
        have c2 := (HU2.out.blk HB.out.hb (fun h => h)).free j
        have hu1 : Upd (fun c => c = (Tb + 1 + 1 + 1)) wr (w2.setCell ⟨(Tb + 1 + 1 + 1), j, none⟩ (.pointer (some ⟨wr.heap.size + 5, 0, none⟩))) := Upd.setCell (S := fun c => c = (Tb + 1 + 1 + 1)) (HU2.out.mono (fun _ _ h => h.elim)) ⟨(Tb + 1 + 1 + 1), j, none⟩ _ (.inl rfl)
        have HS := Lib.hid ((HU2.out.blk HB.out.hb (fun h => h)).set j (.pointer (some ⟨wr.heap.size + 5, 0, none⟩)))
        have HU1 := Lib.hid hu1
        clear hu1
        go_wp2_with fail
        refine (st_push S G R A w.heap.size GT GT k j 25 (.pointer (some ⟨wr.heap.size + 5, 0, none⟩)) _ _ hlt hk (HB.out.st.upd HU1.out (fun c e => by have e : c = _ := e; omega))).mono ?_
        rintro e w' ⟨rfl, hu, hs⟩
        have hu3 : Upd (fun c => c = (Tb + 1 + 1 + 1) ∨ c = R ∨ c = A) wr w' := (HU1.out.mono (fun _ _ h => .inl h)).trans (hu.mono (fun _ _ h => .inr h))
        have HN := Lib.hid (HB.out.next (w' := w') (wr.heap.size + 5) .nilIface hu3 (by rintro c (rfl | rfl | rfl) <;> omega) (by rw [h]; exact hs) (keep_pick (K := fun m => (f m % 6).toNat) (by show (f j % 6).toNat ≠ 2; rw [h]; decide) (hu.blk (HU1.out.blk HB.out.tb (by omega)) (by omega))) (keep_pick (K := fun m => (f m % 6).toNat) (by show (f j % 6).toNat ≠ 3; rw [h]; decide) (hu.blk (HU1.out.blk HB.out.fb (by omega)) (by omega))) (keep_pick (K := fun m => (f m % 6).toNat) (by show (f j % 6).toNat ≠ 4; rw [h]; decide) (hu.blk (HU1.out.blk HB.out.ub (by omega)) (by omega))) (put_pick (K := fun m => (f m % 6).toNat) (by show (f j % 6).toNat = 5; rw [h]; rfl) (hu.blk HS.out (by omega))))
        clear hu3
        clear hu hs h
        go_wp2
        go_roundw
        case rel => exact ⟨j + 1, _, _, by omega, by go_num, HN.out⟩
        case measure => simp [intOf]; omega
    · obtain rfl : j = k := by omega
      go_wp2
      refine bodyPost_ret (v := .tuple #[.pointer (some ⟨S, 0, none⟩), .slice (some ⟨Tb, 0, none⟩) j j, .slice (some ⟨Tb + 1, 0, none⟩) j j, .slice (some ⟨Tb + 1 + 1, 0, none⟩) j j, .slice (some ⟨Tb + 1 + 1 + 1, 0, none⟩) j j]) (by simp [results, Tryz.results15, go_sem]) rfl ?_
      exact ⟨S, G, R, A, _, GT, Tb, _, _, _, o, x, rfl, HB.out⟩
end Go.Proofs.YtejhfhcndpehiaaGreatFmt
