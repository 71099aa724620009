/- The state of the two closing laws, built: walked. -/
import Derived.Test.YtkoiadebacdklaaGreatFmtUve
namespace Go.Proofs.YtkoiadebacdklaaGreatFmt
open Go.RowKit
set_option maxRecDepth 100000

theorem Upd.cell1 {w w' : World} (h : Upd (fun _ => False) w w') {a : Addr} {v : Value} (hc : w.cell? a = some v) : w'.cell? a = some v := by
  rw [← hc]
  exact World.cell?_of_block (h.block _ (World.block_lt_of_cell? w _ hc) (fun h => h))

/-- The registers' values. -/
def vals (x : Nat → ByteArray) (n : Nat) (m : Nat) : Value := if m < n then sv (x m) else .nilIface

/-- The state of the closing laws. -/
structure Bu (w w' : World) (S R A B F M n k u : Nat) (x : Nat → ByteArray) (f : Nat → Nat) (g : Nat → Bool) (lb : Nat → Int) (fb : Nat → Nat) (fr : Nat → List Value) (c : Nat) (dead err : Bool) : Prop where
  upd : Upd (fun _ => False) w w'
  old : w.heap.size ≤ S ∧ w.heap.size ≤ M
  ord : S < M + 1 ∧ R < M + 1 ∧ A < M + 1 ∧ B < M + 1 ∧ F < M + 1
  st : S2 w' S R A B F (n + 1) n k k (below F k) (nod (M + 1) 0 c) dead err (vals x n) fr
  nds : Nds w' (M + 1) R u c f (fun i => x (f i))
  nodes : Blk w' M (tab u fun m => .pointer (some ⟨M + 1 + m, 0, none⟩)) 43
  frs : Frs w' F k fb g lb fr
  fbs : ∀ i, i < k → M + 1 + u ≤ fb i
  sm : S < M ∧ R < M ∧ A < M ∧ B < M ∧ F < M

set_option maxHeartbeats 3200000 in
theorem build_uv (aR aI aB aG : Option Addr) (n cR u cI k cB cG : Nat) (x : Nat → ByteArray) (f : Nat → Nat) (lb : Nat → Int) (g : Nat → Bool) (w : World) (hn : n ≤ 4096) (hu : u ≤ 4096) (hk : k ≤ 4096)
    (hR : Held w w.heap.size aR n fun j => .string (x j)) (hI : Held w w.heap.size aI u fun j => .int .i64 (f j)) (hB : Held w w.heap.size aB k fun j => .int .i64 (lb j)) (hG : Held w w.heap.size aG k fun j => .bool (g j)) :
    Calls Tryz.prog 32 #[.slice aR n cR, .slice aI u cI, .slice aB k cB, .slice aG k cG] w fun e w' => ∃ S R A B F M fb fr, e = .returned (.tuple #[.pointer (some ⟨S, 0, none⟩), .slice (some ⟨M, 0, none⟩) u u]) ∧ Bu w w' S R A B F M n k u x f g lb fb fr u false false := by
  have HR := Lib.hid hR
  have HI := Lib.hid hI
  have HB := Lib.hid hB
  have HG := Lib.hid hG
  clear hR hI hB hG
  go_enter Tryz.func32, Tryz.ntmps32
  go_wp2_with fail
  refine (new_state2 n 1 k _ (by omega) (by omega) hk).mono ?_
  rintro e w1 ⟨S, R, A, B, F, rfl, hu1, hold, hs⟩
  have U1 := Lib.hid hu1
  have S1 := Lib.hid hs
  have OLD := Lib.hid hold
  clear hu1 hs hold
  go_wp2_with fail
  go_loopw [11] (fun i wr => ∃ j : Nat, j ≤ n ∧ i = .int .i64 j ∧ Upd (fun _ => False) w wr ∧ S2 wr S R A B F (n + 1) n k 0 none none false false (vals x j) (fun _ => fr0)) (fun i _ => n - (intOf i).toNat)
  case atStart =>
    refine ⟨0, Nat.zero_le _, rfl, U1.out, ?_⟩
    have e : vals x 0 = fun _ => Value.nilIface := by funext m; unfold vals; rw [if_neg (by omega)]
    rw [e]
    exact S1.out
  case round =>
    obtain ⟨j, hj, rfl, hu2, hs2⟩ := hrel
    have HU := Lib.hid hu2
    have HS := Lib.hid hs2
    clear hu2 hs2 S1 U1
    by_cases hlt : j < n
    · obtain ⟨b, off, rfl, hbl, hc⟩ := (HR.out.upd HU.out (fun c h => h.elim)) j hlt
      have i1 : (0 : Int) ≤ (j : Int) := by omega
      have i2 : (j : Int) < (n : Int) := by omega
      go_wp2_with fail
      refine (set_reg S R A B F (n + 1) n k 0 j none none false false (vals x j) (fun _ => fr0) (x j) _ (by omega) (by omega) HS.out).mono ?_
      rintro e w2 ⟨rfl, hu3, hs3⟩
      have HU3 := Lib.hid (HU.out.trans_new hu3 (fun c h => by have h : c = A := h; have := OLD.out; omega))
      have HS3 := Lib.hid hs3
      clear hu3 hs3
      go_wp2
      go_roundw
      case rel =>
        refine ⟨j + 1, by omega, by go_num, HU3.out, ?_⟩
        have e : vals x (j + 1) = fun m => if m = j then sv (x j) else vals x j m := by
          funext m
          unfold vals
          by_cases e : m = j
          · subst e; rw [if_pos (by omega), if_pos rfl]
          · rw [if_neg e]
            by_cases e2 : m < j
            · rw [if_pos e2, if_pos (by omega)]
            · rw [if_neg e2, if_neg (by omega)]
        rw [e]
        exact HS3.out
      case measure => simp [intOf]; omega
    · obtain rfl : j = n := by omega
      have hI2 := (HI.out.upd HU.out (fun c h => h.elim)).mono HU.out.size
      go_wp2_with fail
      refine (set_upvalues S R A B F (j + 1) j k 0 none false false (vals x j) (fun _ => fr0) aI u cI f (fun i => x (f i)) _ hu HS.out hI2).mono ?_
      rintro e w3 ⟨rfl, hu3, hs3, hb3, hn3⟩
      have lts : S < wr.heap.size ∧ R < wr.heap.size ∧ A < wr.heap.size ∧ B < wr.heap.size ∧ F < wr.heap.size := ⟨HS.out.st.lt, HS.out.rg.lt, HS.out.ar.lt, HS.out.sk.lt, HS.out.fs.lt⟩
      obtain ⟨M, hM⟩ : ∃ M, wr.heap.size = M := ⟨_, rfl⟩
      have hwM : w.heap.size ≤ M := by rw [← hM]; exact HU.out.size
      rw [hM] at hs3 hb3 hn3 lts ⊢
      have HU3 := Lib.hid (HU.out.trans_new hu3 (fun c h => by have h : c = S := h; have := OLD.out; omega))
      have HS3 := Lib.hid hs3
      have HB3 := Lib.hid hb3
      have HN3 := Lib.hid hn3
      have LT := Lib.hid lts
      clear hu3 hs3 hb3 hn3 hI2 lts hM HS HU
      go_wp2_with fail
      go_loopw [13] (fun i wq => ∃ (q : Nat) (fb : Nat → Nat), q ≤ k ∧ i = .int .i64 q ∧ Upd (fun _ => False) w wq ∧ S2 wq S R A B F (j + 1) j k q (below F q) (nod (M + 1) 0 u) false false (vals x j) (fun m => if m < q then frm m (fb m) (below F m) 1 (lb m) (lb m) else fr0) ∧
        Blk wq M (tab u fun m => .pointer (some ⟨M + 1 + m, 0, none⟩)) 43 ∧ Nds wq (M + 1) R u u f (fun i => x (f i)) ∧ ∀ m, m < q → M + 1 + u ≤ fb m ∧ ∃ P, Blk wq (fb m) (fnl (g m) P) 59) (fun i _ => k - (intOf i).toNat)
      case atStart =>
        refine ⟨0, fun _ => 0, Nat.zero_le _, rfl, HU3.out, ?_, HB3.out, HN3.out, fun m hm => absurd hm (by omega)⟩
        have e : (fun m => if m < 0 then frm m 0 (below F m) 1 (lb m) (lb m) else fr0) = fun _ => fr0 := by funext m; rw [if_neg (by omega)]
        have e2 : below F 0 = none := by unfold below; rw [if_pos rfl]
        rw [e, e2]
        exact HS3.out
      case round =>
        obtain ⟨q, fb, hq, rfl, hu4, hs4, hb4, hn4, hf4⟩ := hrel
        have HU4 := Lib.hid hu4
        have HS4 := Lib.hid hs4
        have HB4 := Lib.hid hb4
        have HN4 := Lib.hid hn4
        have HF4 := Lib.hid hf4
        clear hu4 hs4 hb4 hn4 hf4 HU3 HS3 HB3 HN3
        by_cases hlt2 : q < k
        · obtain ⟨b, off, rfl, hbl, hc⟩ := (HG.out.upd HU4.out (fun c h => h.elim)) q hlt2
          obtain ⟨b2, off2, rfl, hbl2, hc2⟩ := (HB.out.upd HU4.out (fun c h => h.elim)) q hlt2
          have i1 : (0 : Int) ≤ (q : Int) := by omega
          have i2 : (q : Int) < (k : Int) := by omega
          have hbs : b < wr.heap.size := World.block_lt_of_cell? wr _ hc
          have hb2s : b2 < wr.heap.size := World.block_lt_of_cell? wr _ hc2
          dsimp only at hc hc2
          have hlen : ∀ i, i < k → (if i < q then frm i (fb i) (below F i) 1 (lb i) (lb i) else fr0).length = 10 := fun i _ => by split <;> rfl
          have HLEN := Lib.hid hlen
          clear hlen
          cases hg : g q with
          | true =>
            rw [hg] at hc
            have HGQ := Lib.hid hg
            clear hg
            have hu5 : Upd (fun _ => False) wr (wr.alloc (.cells (fnl true none).toArray 59)) := (Upd.refl _ _).alloc _
            have hfn : Blk (wr.alloc (.cells (fnl true none).toArray 59)) wr.heap.size (fnl true none) 59 := Blk.new _ _ _
            have HU5 := Lib.hid hu5
            have HFN := Lib.hid hfn
            clear hu5 hfn
            go_wp2_with fail
            refine wp_region_tail_at 10 (by kernel_rfl) (by kernel_rfl) (fun W1 hW1 => ?_)
            have HU7 := Lib.hid (show Upd (fun _ => False) wr W1 by rw [hW1]; exact HU5.out.drew)
            have HFN7 := Lib.hid (show Blk W1 wr.heap.size _ 59 by rw [hW1]; exact HFN.out.drew)
            have c2 := Upd.cell1 HU7.out hc2
            clear hW1 hc hc2 HU5 HFN
            have HU5 := Lib.hid HU7.out
            have HFN := Lib.hid HFN7.out
            clear HU7 HFN7
            simp only [List.take_succ_cons, List.take_zero, List.drop_succ_cons, List.drop_zero]
            repeat still_step
            refine wpStill_nil ?_
            go_wp2_with fail
            refine (push_frame S R A B F (j + 1) j k q wr.heap.size (below F q) (nod (M + 1) 0 u) false false (vals x j) _ (lb q) (lb q) 1 _ hlt2 hk HLEN.out (by exact HS4.out.new HU5.out)).mono ?_
            rintro e w5 ⟨rfl, hu6, hs6⟩
            have hwS : wr.heap.size ≠ S ∧ wr.heap.size ≠ F ∧ wr.heap.size ≠ B := by have := HS4.out.st.lt; have := HS4.out.fs.lt; have := HS4.out.sk.lt; omega
            have hFN5 := hu6.blk HFN.out (fun h => by rcases h with h | h | h <;> omega)
            have HU6 := Lib.hid ((HU4.out.trans HU5.out).trans_new hu6 (fun c h => by have := OLD.out; rcases h with h | h | h <;> omega))
            have HS6 := Lib.hid hs6
            have HFN6 := Lib.hid hFN5
            have lt := LT.out
            have HB6 := Lib.hid (hu6.blk (HU5.out.blk HB4.out (fun h => h)) (fun h => by rcases h with h | h | h <;> omega))
            have HN6 := Lib.hid (show Nds w5 (M + 1) R u u f (fun i => x (f i)) from fun i hi => hu6.blk (HU5.out.blk (HN4.out i hi) (fun h => h)) (fun h => by rcases h with h | h | h <;> omega))
            have HF6 := Lib.hid (show ∀ m, m < q → M + 1 + u ≤ fb m ∧ ∃ P, Blk w5 (fb m) (fnl (g m) P) 59 from fun m hm => by
              obtain ⟨h1, P, hP⟩ := HF4.out m hm
              exact ⟨h1, P, hu6.blk (HU5.out.blk hP (fun h => h)) (fun h => by rcases h with h | h | h <;> omega)⟩)
            have hsz : M + 1 + u ≤ wr.heap.size := by
              by_cases h0 : u = 0
              · have := HB4.out.lt; omega
              · have := (HN4.out (u - 1) (by omega)).lt; omega
            have HSZ := Lib.hid hsz
            clear hu6 hs6 hFN5 hwS lt hsz HB4 HN4 HF4 HFN
            go_wp2
            go_roundw
            case rel =>
              refine ⟨q + 1, fun m => if m = q then wr.heap.size else fb m, by omega, by go_num, HU6.out, ?_, HB6.out, HN6.out, fun m hm => ?_⟩
              · have e : (fun m => if m < q + 1 then frm m (if m = q then wr.heap.size else fb m) (below F m) 1 (lb m) (lb m) else fr0) = fun m => if m = q then frm q wr.heap.size (below F q) 1 (lb q) (lb q) else if m < q then frm m (fb m) (below F m) 1 (lb m) (lb m) else fr0 := by
                  funext m
                  by_cases e : m = q
                  · subst e; rw [if_pos (by omega), if_pos rfl, if_pos rfl]
                  · rw [if_neg e, if_neg e]
                    by_cases e2 : m < q
                    · rw [if_pos e2, if_pos (by omega)]
                    · rw [if_neg e2, if_neg (by omega)]
                have e2 : below F (q + 1) = some ⟨F, q * 10, none⟩ := by unfold below; rw [if_neg (by omega), Nat.add_sub_cancel]
                rw [e, e2]
                exact HS6.out
              · dsimp only
                by_cases e : m = q
                · subst e
                  rw [if_pos rfl]
                  exact ⟨HSZ.out, _, by rw [HGQ.out]; exact HFN6.out⟩
                · rw [if_neg e]
                  exact HF6.out m (by omega)
            case measure => simp [intOf]; omega
          | false =>
            rw [hg] at hc
            have HGQ := Lib.hid hg
            clear hg
            have hu5 : Upd (fun _ => False) wr ((wr.alloc (.cells (fnl false (some ⟨wr.heap.size + 1, 0, none⟩)).toArray 59)).alloc (.cells #[.string ⟨#[108, 97, 119]⟩, .int .i64 0, .int .i64 0, .int .u8 0, .int .u8 0, .int .u8 0, .int .u8 0, .slice none 0 0, .slice none 0 0, .slice none 0 0, .slice none 0 0, .slice none 0 0, .slice none 0 0, .slice none 0 0, .slice none 0 0] 65)) := ((Upd.refl _ _).alloc _).alloc _
            have hfn : Blk ((wr.alloc (.cells (fnl false (some ⟨wr.heap.size + 1, 0, none⟩)).toArray 59)).alloc (.cells #[.string ⟨#[108, 97, 119]⟩, .int .i64 0, .int .i64 0, .int .u8 0, .int .u8 0, .int .u8 0, .int .u8 0, .slice none 0 0, .slice none 0 0, .slice none 0 0, .slice none 0 0, .slice none 0 0, .slice none 0 0, .slice none 0 0, .slice none 0 0] 65)) wr.heap.size (fnl false (some ⟨wr.heap.size + 1, 0, none⟩)) 59 := (Blk.new _ _ _).alloc _
            have HU5 := Lib.hid hu5
            have HFN := Lib.hid hfn
            clear hu5 hfn
            go_wp2_with fail
            refine wp_region_tail_at 10 (by kernel_rfl) (by kernel_rfl) (fun W1 hW1 => ?_)
            have HU7 := Lib.hid (show Upd (fun _ => False) wr W1 by rw [hW1]; exact HU5.out.drew)
            have HFN7 := Lib.hid (show Blk W1 wr.heap.size _ 59 by rw [hW1]; exact HFN.out.drew)
            have c2 := Upd.cell1 HU7.out hc2
            clear hW1 hc hc2 HU5 HFN
            have HU5 := Lib.hid HU7.out
            have HFN := Lib.hid HFN7.out
            clear HU7 HFN7
            simp only [List.take_succ_cons, List.take_zero, List.drop_succ_cons, List.drop_zero]
            repeat still_step
            refine wpStill_nil ?_
            go_wp2_with fail
            refine (push_frame S R A B F (j + 1) j k q wr.heap.size (below F q) (nod (M + 1) 0 u) false false (vals x j) _ (lb q) (lb q) 1 _ hlt2 hk HLEN.out (by exact HS4.out.new HU5.out)).mono ?_
            rintro e w5 ⟨rfl, hu6, hs6⟩
            have hwS : wr.heap.size ≠ S ∧ wr.heap.size ≠ F ∧ wr.heap.size ≠ B := by have := HS4.out.st.lt; have := HS4.out.fs.lt; have := HS4.out.sk.lt; omega
            have hFN5 := hu6.blk HFN.out (fun h => by rcases h with h | h | h <;> omega)
            have HU6 := Lib.hid ((HU4.out.trans HU5.out).trans_new hu6 (fun c h => by have := OLD.out; rcases h with h | h | h <;> omega))
            have HS6 := Lib.hid hs6
            have HFN6 := Lib.hid hFN5
            have lt := LT.out
            have HB6 := Lib.hid (hu6.blk (HU5.out.blk HB4.out (fun h => h)) (fun h => by rcases h with h | h | h <;> omega))
            have HN6 := Lib.hid (show Nds w5 (M + 1) R u u f (fun i => x (f i)) from fun i hi => hu6.blk (HU5.out.blk (HN4.out i hi) (fun h => h)) (fun h => by rcases h with h | h | h <;> omega))
            have HF6 := Lib.hid (show ∀ m, m < q → M + 1 + u ≤ fb m ∧ ∃ P, Blk w5 (fb m) (fnl (g m) P) 59 from fun m hm => by
              obtain ⟨h1, P, hP⟩ := HF4.out m hm
              exact ⟨h1, P, hu6.blk (HU5.out.blk hP (fun h => h)) (fun h => by rcases h with h | h | h <;> omega)⟩)
            have hsz : M + 1 + u ≤ wr.heap.size := by
              by_cases h0 : u = 0
              · have := HB4.out.lt; omega
              · have := (HN4.out (u - 1) (by omega)).lt; omega
            have HSZ := Lib.hid hsz
            clear hu6 hs6 hFN5 hwS lt hsz HB4 HN4 HF4 HFN
            go_wp2
            go_roundw
            case rel =>
              refine ⟨q + 1, fun m => if m = q then wr.heap.size else fb m, by omega, by go_num, HU6.out, ?_, HB6.out, HN6.out, fun m hm => ?_⟩
              · have e : (fun m => if m < q + 1 then frm m (if m = q then wr.heap.size else fb m) (below F m) 1 (lb m) (lb m) else fr0) = fun m => if m = q then frm q wr.heap.size (below F q) 1 (lb q) (lb q) else if m < q then frm m (fb m) (below F m) 1 (lb m) (lb m) else fr0 := by
                  funext m
                  by_cases e : m = q
                  · subst e; rw [if_pos (by omega), if_pos rfl, if_pos rfl]
                  · rw [if_neg e, if_neg e]
                    by_cases e2 : m < q
                    · rw [if_pos e2, if_pos (by omega)]
                    · rw [if_neg e2, if_neg (by omega)]
                have e2 : below F (q + 1) = some ⟨F, q * 10, none⟩ := by unfold below; rw [if_neg (by omega), Nat.add_sub_cancel]
                rw [e, e2]
                exact HS6.out
              · dsimp only
                by_cases e : m = q
                · subst e
                  rw [if_pos rfl]
                  exact ⟨HSZ.out, _, by rw [HGQ.out]; exact HFN6.out⟩
                · rw [if_neg e]
                  exact HF6.out m (by omega)
            case measure => simp [intOf]; omega
        · obtain rfl : q = k := by omega
          go_wp2
          refine bodyPost_ret (v := .tuple #[.pointer (some ⟨S, 0, none⟩), .slice (some ⟨M, 0, none⟩) u u]) (by simp [results, Tryz.results32, go_sem]) rfl ?_
          have lt := LT.out
          have old := OLD.out
          refine ⟨S, R, A, B, F, M, fb, _, rfl, HU4.out, ⟨old.1, hwM⟩, by omega, HS4.out, HN4.out, HB4.out, ⟨fun i hi => ⟨1, lb i, ?_⟩, fun i _ => by split <;> rfl, fun i hi => (HF4.out i hi).2⟩, fun i hi => (HF4.out i hi).1, lt⟩
          rw [if_pos hi]
end Go.Proofs.YtkoiadebacdklaaGreatFmt
