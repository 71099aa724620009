/- The cache's list, read out: walked. -/
import Derived.Test.YtkoiadebacdklaaGreatFmtUvh
import Derived.Maps.AppendAt
import Derived.OwnWalk
namespace Go.Proofs.YtkoiadebacdklaaGreatFmt
open Go.RowKit
set_option maxRecDepth 100000

theorem run_made0 {P : Program} (t e : TypeId) (z : Value) (bytes : Nat) (ht : P.underlying t = some (.slice e)) (hinfo : (P.info? e).map (fun i => (i.zero, i.size, i.bytes)) = some (some z, z.cells.size, bytes)) (hz : 0 < z.cells.size)
    (n : Nat) (hbytes : bytes * n ≤ 281474976710656) (h63 : n ≤ 9223372036854775807) (w : World) :
    (Instr.makeSlice t (.int .i64 0) (.int .i64 (n : Int))).run P w = .ok (.slice (some ⟨w.heap.size, 0, none⟩) 0 n) (w.alloc (.cells ((List.replicate n z.cells.toList).flatten).toArray e)) := by
  obtain ⟨i, hi, hzz⟩ := Option.map_eq_some_iff.1 hinfo
  simp only [Prod.mk.injEq] at hzz
  obtain ⟨h1, h2, h3⟩ := hzz
  have hb' : (i.bytes : Int) * (n : Int) ≤ 281474976710656 := by
    have h : ((i.bytes * n : Nat) : Int) ≤ 281474976710656 := by rw [h3]; omega
    rwa [Int.natCast_mul] at h
  have h := run_make (P := P) w t e i z ht hi h1 .i64 .i64 0 n (Int.le_refl _) (by omega) hb' (by omega)
  rw [Int.toNat_natCast, h2, madeCells_flat _ _ hz] at h
  exact h

theorem mkRoom (k : Nat) (hk : k ≤ 1048576) (w : World) : (Instr.makeSlice 57 (.int .i64 0) (.int .i64 (k : Int))).run Tryz.prog w = .ok (.slice (some ⟨w.heap.size, 0, none⟩) 0 k) (w.alloc (.cells (tab k fun _ => Value.pointer none).toArray 43)) := by
  have h := run_made0 (P := Tryz.prog) 57 43 (Value.pointer none) 8 Tryz.underlying57 (by kernel_rfl) (by decide) k (by omega) (by omega) w
  have e : (List.replicate k (Value.pointer none).cells.toList).flatten = tab k fun _ => Value.pointer none := by
    rw [← tab_rep]
    show (List.replicate k [Value.pointer none]).flatten = _
    rw [List.flatten_replicate_singleton]
  rw [e] at h
  exact h

theorem infoNode : (Tryz.prog.info? 43).map (fun i => (i.zero, i.size, i.bytes)) = some (some (Value.pointer none), 1, 8) := by kernel_rfl

theorem Upd.grown {w wr w1 : World} {e : TypeId} {v : Value} {n : Nat} {xs : List Value} (hu : Upd (fun _ => False) w wr) (hown : wr.ownsRow w.heap.size e 1 v n xs) (hg : wr.grownBy w1 v.ownBlock) : Upd (fun _ => False) w w1 :=
  ⟨hg.os.trans hu.os, hg.tape.trans hu.tape, hg.output.trans hu.output, Nat.le_trans hu.size hg.size, fun i hi hs => (hg.block i (Nat.lt_of_lt_of_le hi hu.size) (by
    rcases hown.2 with ⟨rfl, _⟩ | ⟨g, cap, cur, rfl, hb, _⟩
    · intro h; cases h
    · intro h
      have h : i = g := Option.some.inj h
      omega)).trans (hu.block i hi hs)⟩

/-- The elements that a slice shows, in a block from B on. -/
def Fresh (w : World) (B : Nat) (a : Option Addr) (k : Nat) (f : Nat → Value) : Prop := ∀ j, j < k → ∃ b, a = some ⟨b, 0, none⟩ ∧ B ≤ b ∧ w.cell? ⟨b, j, none⟩ = some (f j)
theorem Fresh.upd {w w' : World} {B : Nat} {a : Option Addr} {k : Nat} {f : Nat → Value} {S : Nat → Prop} (h : Fresh w B a k f) (hu : Upd S w w') (hS : ∀ c, S c → c < B) : Fresh w' B a k f := fun j hj => by
  obtain ⟨b, ha, hb, hc⟩ := h j hj
  exact ⟨b, ha, hb, by rw [← hc]; exact World.cell?_of_block (a := ⟨b, j, none⟩) (hu.block _ (World.block_lt_of_cell? w _ hc) (fun hs => by have h : b < B := hS _ hs; omega))⟩

theorem owns_cells {wr : World} {B : Nat} {e : TypeId} {v : Value} {n : Nat} {f : Nat → Value} (hown : wr.ownsRow B e 1 v n (tab n f)) : ∃ a c, v = .slice a n c ∧ Fresh wr B a n f := by
  rcases hown.2 with ⟨rfl, rfl⟩ | ⟨g, cap, cur, rfl, hb, _⟩
  · exact ⟨none, 0, rfl, fun j h => by omega⟩
  · exact ⟨_, _, rfl, fun j h => ⟨g, rfl, hb, by have := hown.cells (g := g) rfl j _ (tab_in h); rw [Addr.add_mid, Nat.zero_add] at this; exact this⟩⟩

theorem tab_succ {α : Type} (k : Nat) (f : Nat → α) : tab (k + 1) f = tab k f ++ [f k] := by simp [tab, List.range_succ]

/-- The list of the first c nodes. -/
def Cached (N c : Nat) (w : World) (e : Ending) (w' : World) : Prop := ∃ a cc, e = .returned (.tuple #[.slice a c cc, .bool true]) ∧ Upd (fun _ => False) w w' ∧ Fresh w' w.heap.size a c fun i => .pointer (some ⟨N + i, 0, none⟩)

set_option maxHeartbeats 1600000 in
theorem cache (S R B N u c : Nat) (cur : Option Addr) (dead err : Bool) (f : Nat → Nat) (t : Nat → ByteArray) (w : World) (hu : u ≤ 4096) (hc : c ≤ u)
    (hs : Blk w S (st2 R B cur (nod N 0 c) dead err) 46) (hnd : Nds w N R u c f t) :
    Calls Tryz.prog 38 #[.pointer (some ⟨S, 0, none⟩), .int .i64 u] w (Cached N c w) := by
  have HS := Lib.hid hs
  have HN := Lib.hid hnd
  clear hs hnd
  obtain ⟨i0, hi, hz0, hz1, hz2⟩ := info_parts infoNode
  have hmk := mkRoom u (by omega)
  go_enter Tryz.func38, Tryz.ntmps38
  go_wp2_with fail
  have U1 := Lib.hid ((Upd.refl (fun _ => False) w).alloc (.cells (tab u fun _ => Value.pointer none).toArray 43))
  have OWN := Lib.hid (show (w.alloc (.cells (tab u fun _ => Value.pointer none).toArray 43)).ownsRow w.heap.size 43 1 (.slice (some ⟨w.heap.size, 0, none⟩) 0 u) 0 (tab 0 fun i => Value.pointer (some ⟨N + i, 0, none⟩)) from
    ⟨rfl, .inr ⟨_, _, _, rfl, Nat.le_refl _, Blk.new w _ _, Nat.zero_le _, by unfold maxLen; omega, by simp [tab_length], rfl⟩⟩)
  refine (uv_head S R B cur (nod N 0 c) dead err _ (by exact U1.out.blk HS.out (fun h => h))).mono ?_
  rintro e w' ⟨rfl, rfl⟩
  clear hmk
  go_wp2_with fail
  go_loopw [6, 7, 8] (fun o p i wr => ∃ (j : Nat) (v : Value), j ≤ c ∧ i = .int .i64 j ∧ p = .pointer (nod N j c) ∧ o = v ∧ wr.ownsRow w.heap.size 43 1 v j (tab j fun i => Value.pointer (some ⟨N + i, 0, none⟩)) ∧ Upd (fun _ => False) w wr) (fun _ _ i _ => c - (intOf i).toNat)
  case atStart => exact ⟨0, _, Nat.zero_le _, rfl, rfl, rfl, OWN.out, U1.out⟩
  case round =>
    obtain ⟨j, v, hj, rfl, rfl, rfl, hown, hu2⟩ := hrel
    have U2 := Lib.hid hu2
    have OWN2 := Lib.hid hown
    clear hu2 hown U1 OWN
    by_cases hlt : j < c
    · have e1 : nod N j c = some ⟨N + j, 0, none⟩ := by unfold nod; rw [if_pos hlt]
      rw [e1]
      have hsz := U2.out.size
      go_wp2_with (at_builtin; refine wpList_append_own_at _ rfl _ _ 57 rfl w.heap.size 43 i0 (.pointer none) 1 8 Tryz.underlying57 hi hz0 hz1 hz2 rfl (by decide) _ _ _ rfl (OWN2.out.alloc _) ⟨_, 0, none⟩ 1 1 [.pointer (some ⟨N + j, 0, none⟩)] rfl rfl (cell_one_new _ _ _) (by intro u hu; simp at hu; subst hu; rfl) (by unfold maxLen; omega) (by omega) (by simp; omega) ?_; intro v' w1 hown' hgrow hnil hloc)
      have U3 := Lib.hid (Upd.grown (U2.out.alloc _) (OWN2.out.alloc _) hgrow)
      have e2 : tab (j + 1) (fun i => Value.pointer (some ⟨N + i, 0, none⟩)) = tab j (fun i => Value.pointer (some ⟨N + i, 0, none⟩)) ++ [.pointer (some ⟨N + j, 0, none⟩)] := tab_succ _ _
      rw [← e2] at hown'
      have OWN3 := Lib.hid hown'
      have hnode := Lib.hid (U3.out.blk (HN.out j (by omega)) (fun h => h))
      clear hown' hgrow hnil hloc e2
      refine (uv_next (N + j) R (nod N (j + 1) c) (f j) _ _ _ (by exact hnode.out)).mono ?_
      rintro e w2 ⟨rfl, rfl⟩
      go_wp2
      go_roundw
      case rel => exact ⟨j + 1, _, by omega, by go_num, rfl, rfl, OWN3.out, U3.out⟩
      case measure => simp [intOf]; omega
    · obtain rfl : j = c := by omega
      have e1 : nod N j j = none := by unfold nod; rw [if_neg (by omega)]
      rw [e1]
      obtain ⟨a, cc, hv, hcs⟩ := owns_cells OWN2.out
      subst hv
      have CS := Lib.hid hcs
      clear hcs
      go_wp2
      go_ret2
      exact ⟨a, cc, rfl, U2.out, CS.out⟩
end Go.Proofs.YtkoiadebacdklaaGreatFmt
