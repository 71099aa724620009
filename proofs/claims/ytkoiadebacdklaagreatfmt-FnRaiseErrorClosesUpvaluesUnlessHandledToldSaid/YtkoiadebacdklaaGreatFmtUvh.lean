/- The check of the closing law: walked. -/
import Derived.Test.YtkoiadebacdklaaGreatFmtUvg
import Derived.Lib.Builder
namespace Go.Proofs.YtkoiadebacdklaaGreatFmt
open Go.RowKit
set_option maxRecDepth 100000

theorem infoUv : ∃ j, Tryz.prog.info? 134 = some j := Option.isSome_iff_exists.1 (by kernel_rfl)
@[go_sem] theorem neUv (p : Option Addr) (w : World) : (binOp .neq 43 (.pointer p) (.pointer p)).run Tryz.prog w = .ok (.bool false) w := by
  cases p with
  | none => kernel_rfl
  | some a =>
    obtain ⟨j, hj⟩ := infoUv
    exact Lib.run_neq_ptr_same w a Tryz.underlying43 hj

def IsTrue (w : World) (e : Ending) (w' : World) : Prop := e = .returned (.bool true) ∧ Upd (fun _ => False) w w'

set_option maxHeartbeats 3200000 in
theorem check (S R A B F M cap top k sp n u c cI cR : Nat) (aI aR cur : Option Addr) (dead err b0 : Bool) (x0 : Int) (v : Nat → Value) (fr : Nat → List Value) (x : Nat → ByteArray) (f : Nat → Nat) (w : World) (_hn : n ≤ 4096) (hu : u ≤ 4096) (hc : c ≤ u)
    (hs : S2 w S R A B F cap top k sp cur (nod (M + 1) 0 c) dead err v fr) (hnd : Nds w (M + 1) R u c f (fun i => x (f i))) (hm : Blk w M (tab u fun m => .pointer (some ⟨M + 1 + m, 0, none⟩)) 43)
    (hI : Cells w aI u fun j => .int .i64 (f j)) (hR : Cells w aR n fun j => .string (x j)) (hf : ∀ i, i < u → f i < n) (hz : ∀ i, i < u → (c ≤ i ↔ b0 = true ∧ x0 ≤ (f i : Int))) :
    Calls Tryz.prog 29 #[.pointer (some ⟨S, 0, none⟩), .slice (some ⟨M, 0, none⟩) u u, .slice aI u cI, .slice aR n cR, .bool b0, .int .i64 x0] w (IsTrue w) := by
  have HS := Lib.hid hs
  have HN := Lib.hid hnd
  have HM := Lib.hid hm
  have HI := Lib.hid hI
  have HR := Lib.hid hR
  have HF := Lib.hid hf
  have HZ := Lib.hid hz
  clear hs hnd hm hI hR hf hz
  go_enter Tryz.func29, Tryz.ntmps29
  go_wp2_with fail
  refine (uv_head S R B cur (nod (M + 1) 0 c) dead err _ HS.out.st).mono ?_
  rintro e w' ⟨rfl, rfl⟩
  go_wp2_with fail
  go_loopw [13, 14] (fun p i wr => ∃ j : Nat, j ≤ u ∧ i = .int .i64 j ∧ p = .pointer (nod (M + 1) j c) ∧ Upd (fun _ => False) w wr) (fun _ i _ => u - (intOf i).toNat)
  case atStart => exact ⟨0, Nat.zero_le _, rfl, rfl, Upd.refl _ _⟩
  case round =>
    obtain ⟨j, hj, rfl, rfl, hu0⟩ := hrel
    have HU := Lib.hid hu0
    clear hu0
    by_cases hlt : j < u
    · have hz := HZ.out j hlt
      have hfj := HF.out j hlt
      obtain ⟨b1, off1, rfl, hc1⟩ := (HI.out.upd HU.out).one hlt
      obtain ⟨b2, off2, rfl, hc2⟩ := (HR.out.upd HU.out).one hfj
      have hcm := (HU.out.blk HM.out (fun h => h)).at (tab_in hlt)
      have hnode := HU.out.blk (HN.out j hlt) (fun h => h)
      have i1 : (0 : Int) ≤ (f j : Int) := by omega
      have i2 : (f j : Int) < (n : Int) := by omega
      by_cases hcj : c ≤ j
      · obtain ⟨rfl, hx⟩ := hz.mp hcj
        have e1 : nod (M + 1) j c = none := by unfold nod; rw [if_neg (by omega)]
        rw [if_pos hcj, show decide (c ≤ j) = true from decide_eq_true hcj] at hnode
        rw [e1]
        have HND := Lib.hid hnode
        clear hnode hz
        go_wp2_with fail
        refine (uv_value_s (M + 1 + j) R (nod (M + 1) (j + 1) c) (f j) (x (f j)) true _ (by exact HND.out)).mono ?_
        rintro e w2 ⟨rfl, rfl⟩
        go_wp2_with fail
        refine (uv_closed (M + 1 + j) R (nod (M + 1) (j + 1) c) (f j) (sv (x (f j))) true _ (by exact HND.out)).mono ?_
        rintro e w3 ⟨rfl, rfl⟩
        go_wp2
        try go_quiet (fail)
        go_wp2
        go_roundw
        case rel =>
          refine ⟨j + 1, by omega, by go_num, ?_, by first | exact HU.out | exact HU.out.drewN _⟩
          unfold nod
          rw [if_neg (by omega)]
        case measure => simp [intOf]; omega
      · have e1 : nod (M + 1) j c = some ⟨M + 1 + j, 0, none⟩ := by unfold nod; rw [if_pos (by omega)]
        rw [if_neg hcj, show decide (c ≤ j) = false from decide_eq_false hcj] at hnode
        rw [e1]
        have HND := Lib.hid hnode
        have hx : b0 = true → (f j : Int) < x0 := fun hb => by
          by_cases h : x0 ≤ (f j : Int)
          · exact absurd (hz.mpr ⟨hb, h⟩) hcj
          · omega
        clear hnode hz HZ
        cases b0 with
        | true =>
          have hx2 : (f j : Int) < x0 := hx rfl
          clear hx
          go_wp2_with fail
          refine (uv_value_n (M + 1 + j) R (nod (M + 1) (j + 1) c) (f j) false _ (by exact HND.out)).mono ?_
          rintro e w2 ⟨rfl, rfl⟩
          go_wp2_with fail
          refine (uv_closed (M + 1 + j) R (nod (M + 1) (j + 1) c) (f j) .nilIface false _ (by exact HND.out)).mono ?_
          rintro e w3 ⟨rfl, rfl⟩
          go_wp2_with fail
          refine (uv_next (M + 1 + j) R (nod (M + 1) (j + 1) c) (f j) .nilIface false _ (by exact HND.out)).mono ?_
          rintro e w2 ⟨rfl, rfl⟩
          go_wp2
          go_roundw
          case rel => exact ⟨j + 1, by omega, by go_num, rfl, by first | exact HU.out | exact HU.out.drewN _⟩
          case measure => simp [intOf]; omega
        | false =>
          clear hx
          go_wp2_with fail
          refine (uv_value_n (M + 1 + j) R (nod (M + 1) (j + 1) c) (f j) false _ (by exact HND.out)).mono ?_
          rintro e w2 ⟨rfl, rfl⟩
          go_wp2_with fail
          refine (uv_closed (M + 1 + j) R (nod (M + 1) (j + 1) c) (f j) .nilIface false _ (by exact HND.out)).mono ?_
          rintro e w3 ⟨rfl, rfl⟩
          go_wp2_with fail
          refine (uv_next (M + 1 + j) R (nod (M + 1) (j + 1) c) (f j) .nilIface false _ (by exact HND.out)).mono ?_
          rintro e w2 ⟨rfl, rfl⟩
          go_wp2
          go_roundw
          case rel => exact ⟨j + 1, by omega, by go_num, rfl, by first | exact HU.out | exact HU.out.drewN _⟩
          case measure => simp [intOf]; omega
    · obtain rfl : j = u := by omega
      have e1 : nod (M + 1) j c = none := by unfold nod; rw [if_neg (by omega)]
      rw [e1]
      go_wp2
      go_ret
      exact ⟨rfl, HU.out⟩
end Go.Proofs.YtkoiadebacdklaaGreatFmt
