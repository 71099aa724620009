/- The law's look at one frame, walked. -/
import Derived.Test.YtnmjidkbaohliaaGreatFmtBuild
import Derived.LaidEqlPtr
namespace Go.Proofs.YtnmjidkbaohliaaGreatFmt
open Go.RowKit
set_option maxRecDepth 100000

theorem info71some : ∃ j, Tryz.prog.info? 71 = some j ∧ j.size ≠ 0 := by
  have h := info71
  obtain ⟨j, hj, hs⟩ := Option.map_eq_some_iff.1 h
  exact ⟨j, hj, by rw [hs]; decide⟩
@[go_sem] theorem eq66 (a : Addr) (w : World) : (binOp .eql 66 (.pointer (some a)) (.pointer (some a))).run Tryz.prog w = .ok (.bool true) w := by
  obtain ⟨j, hj, _⟩ := info71some
  exact run_eql_ptr_same w a Tryz.underlying66 hj
@[go_sem] theorem ne66 (a : Addr) (w : World) : (binOp .neq 66 (.pointer (some a)) (.pointer (some a))).run Tryz.prog w = .ok (.bool false) w := by
  obtain ⟨j, hj, _⟩ := info71some
  have h : ∀ d : Nat, (Op.equalIn (d + 1) 66 (.pointer (some a)) (.pointer (some a))).run Tryz.prog w = .ok true w := fun d => by
    simp [Op.equalIn, run_underlying Tryz.underlying66, sizeOf, typeInfo, hj, run_sameAddr_same]
  simp only [binOp]
  simp [Op.equal, Op.maxDepth, h 9999]

set_option maxHeartbeats 800000 in
theorem frame_is (S B A k i : Nat) (sp pc base nret : Int) (fs : List Fr) (w : World) (hk : k ≤ 4096) (hi : i < k)
    (hf : fs[i]? = some ⟨i, if i = 0 then none else some ⟨A, (i - 1) * 10, none⟩, pc, base, nret⟩)
    (hS : Blk w S (stt B) 108) (hA : Blk w A (enc fs) 71) (hB : Blk w B (stk A k sp) 141) :
    Calls Tryz.prog 32 #[.pointer (some ⟨S, 0, none⟩), .int .i64 i, .int .i64 pc, .int .i64 base, .int .i64 nret] w fun e w' => e = .returned (.bool true) ∧ ∃ n, w' = w.drewN n := by
  have c0 : w.cell? ⟨A, i * 10, none⟩ = some (.int .i64 i) := hA.at (enc_at fs i 0 _ hf (by omega))
  have c2 := hA.at (enc_at fs i 2 _ hf (by omega))
  have c3 := hA.at (enc_at fs i 3 _ hf (by omega))
  have c4 := hA.at (enc_at fs i 4 _ hf (by omega))
  have c8 := hA.at (enc_at fs i 8 _ hf (by omega))
  have HS := Lib.hid hS
  have HB := Lib.hid hB
  clear hS hA hB hf
  by_cases h0 : i = 0
  · subst h0
    go_enter Tryz.func32, Tryz.ntmps32
    go_wp2_with (first | (go_at_call 31; refine (frame_at S B A k 0 sp _ hi (by exact HS.out) (by exact HB.out)).mono ?_; rintro e w' ⟨rfl, rfl⟩))
    go_ret
    exact ⟨rfl, 0, rfl⟩
  · rw [if_neg h0] at c2
    have hz : ((i : Int) == 0) = false := by simpa using h0
    have e1 : ((i : Int) - 1) = ((i - 1 : Nat) : Int) := by omega
    have HE := Lib.hid e1
    clear e1
    go_enter Tryz.func32, Tryz.ntmps32
    go_wp2_with (first | (go_at_call 31; refine (frame_at S B A k i sp _ hi (by exact HS.out) (by exact HB.out)).mono ?_; rintro e w' ⟨rfl, rfl⟩))
    go_quiet ((go_at_call 31; rw [HE.out]; exact Calls.quiet_of_same (frame_at S B A k (i - 1) sp _ (by omega) (by exact HS.out) (by exact HB.out))))
    go_wp2
    go_ret
    exact ⟨rfl, _, rfl⟩
end Go.Proofs.YtnmjidkbaohliaaGreatFmt
