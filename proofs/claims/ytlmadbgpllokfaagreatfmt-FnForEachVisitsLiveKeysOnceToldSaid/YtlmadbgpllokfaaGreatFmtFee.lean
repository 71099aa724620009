/- Tables made fresh: walked. -/
import Derived.Test.YtlmadbgpllokfaaGreatFmtCells
import Derived.LaidEql
import Derived.LaidEqlPtr
import Derived.Lib.Builder
import Derived.Stop.Asserts
import Derived.Carry
import Derived.IntWalk
import Derived.BigQuiet
import Derived.Deep.QuietTactic
namespace Go.Proofs.YtlmadbgpllokfaaGreatFmt
open Go.RowKit
set_option maxRecDepth 100000

def nilw : Value := .iface 69 (.int .u8 0)
def tabv (T : Nat) : Value := .iface 32 (.pointer (some ⟨T, 0, none⟩))
/-- A table's cells: fresh but for its metatable. -/
def ltab (mt : Value) (A m : Nat) : List Value := [mt, .slice (some ⟨A, 0, none⟩) 0 32, .map none, .map (some m), .slice none 0 0, .map none]

theorem infoTab : ∃ i j, Tryz.prog.info? 32 = some i ∧ i.comparable = true ∧ Tryz.prog.info? 89 = some j := by
  have h1 : ((Tryz.prog.info? 32).map (·.comparable)) = some true := by kernel_rfl
  obtain ⟨i, hi, hc⟩ := Option.map_eq_some_iff.1 h1
  obtain ⟨j, hj⟩ := Option.isSome_iff_exists.1 (show (Tryz.prog.info? 89).isSome = true by kernel_rfl)
  exact ⟨i, j, hi, hc, hj⟩
@[go_sem] theorem eqTab (a : Addr) (w : World) : (binOp .eql 49 (.iface 32 (.pointer (some a))) (.iface 32 (.pointer (some a)))).run Tryz.prog w = .ok (.bool true) w := by
  obtain ⟨i, j, hi, hc, hj⟩ := infoTab
  exact run_eql_iface_ptr_same w a Tryz.underlying49 Tryz.underlying32 hi hc hj
@[go_sem] theorem neTab (a : Addr) (w : World) : (binOp .neq 49 (.iface 32 (.pointer (some a))) (.iface 32 (.pointer (some a)))).run Tryz.prog w = .ok (.bool false) w := by
  obtain ⟨i, j, hi, hc, hj⟩ := infoTab
  simp only [binOp]
  simp [Op.equal, Op.maxDepth, run_equalIn_iface_ptr_same w 9998 a Tryz.underlying49 Tryz.underlying32 hi hc hj]
@[go_sem] theorem eqTabP (a : Addr) (w : World) : (binOp .eql 32 (.pointer (some a)) (.pointer (some a))).run Tryz.prog w = .ok (.bool true) w := by
  obtain ⟨i, j, hi, hc, hj⟩ := infoTab
  exact run_eql_ptr_same w a Tryz.underlying32 hj
@[go_sem] theorem neTabP (a : Addr) (w : World) : (binOp .neq 32 (.pointer (some a)) (.pointer (some a))).run Tryz.prog w = .ok (.bool false) w := by
  obtain ⟨i, j, hi, hc, hj⟩ := infoTab
  exact Lib.run_neq_ptr_same w a Tryz.underlying32 hj

theorem run_made1 {P : Program} (t e : TypeId) (z : Value) (bytes : Nat) (ht : P.underlying t = some (.slice e)) (hinfo : (P.info? e).map (fun i => (i.zero, i.size, i.bytes)) = some (some z, z.cells.size, bytes)) (hz : 0 < z.cells.size)
    (n : Nat) (hbytes : bytes * n ≤ 281474976710656) (h63 : n ≤ 9223372036854775807) (w : World) :
    (Instr.makeSlice t (.int .i64 0) (.int .i64 (n : Int))).run P w = .ok (.slice (some ⟨w.heap.size, 0, none⟩) 0 n) (w.alloc (.cells ((List.replicate n z.cells.toList).flatten).toArray e)) := by
  obtain ⟨i, hi, hzz⟩ := Option.map_eq_some_iff.1 hinfo
  simp only [Prod.mk.injEq] at hzz
  obtain ⟨h1, h2, h3⟩ := hzz
  have hb' : (i.bytes : Int) * (n : Int) ≤ 281474976710656 := by
    have h : ((i.bytes * n : Nat) : Int) ≤ 281474976710656 := by rw [h3]; omega
    rwa [Int.natCast_mul] at h
  have h := run_make (P := P) w t e i z ht hi h1 .i64 .i64 0 n (by omega) (by omega) hb' (by omega)
  rw [Int.toNat_natCast, h2, madeCells_flat _ _ hz] at h
  exact h

theorem mkArr (w : World) : (Instr.makeSlice 84 (.int .i64 0) (.int .i64 32)).run Tryz.prog w = .ok (.slice (some ⟨w.heap.size, 0, none⟩) 0 32) (w.alloc (.cells (tab 32 fun _ => Value.nilIface).toArray 49)) := by
  have h := run_made1 (P := Tryz.prog) 84 49 .nilIface 16 Tryz.underlying84 (by kernel_rfl) (by decide) 32 (by omega) (by omega) w
  have e : (List.replicate 32 Value.nilIface.cells.toList).flatten = tab 32 fun _ => Value.nilIface := by
    rw [← tab_rep]
    show (List.replicate 32 [Value.nilIface]).flatten = _
    rw [List.flatten_replicate_singleton]
  rw [e] at h
  exact h

theorem obj_new {w : World} {b : Nat} (hb : b = w.heap.size) (o : Obj) : (w.alloc o).heap[b]? = some o := by
  subst hb
  unfold World.alloc
  simp

/-- A fresh table. -/
structure NewT (w w' : World) (T A m : Nat) : Prop where
  upd : Upd (fun _ => False) w w'
  old : w.heap.size ≤ T ∧ w.heap.size ≤ A ∧ w.heap.size ≤ m ∧ T ≠ A ∧ T ≠ m ∧ A ≠ m
  tb : Blk w' T (ltab nilw A m) 89
  ar : Blk w' A (tab 32 fun _ => Value.nilIface) 49
  mp : w'.heap[m]? = some (.map #[] 0)

set_option maxHeartbeats 800000 in
theorem new_ltable (w : World) : Calls Tryz.prog 58 #[.int .i64 32, .int .i64 32] w fun e w' => ∃ T A m, e = .returned (.pointer (some ⟨T, 0, none⟩)) ∧ NewT w w' T A m := by
  have hm := mkArr
  have hmm : ∀ w, (Instr.makeMap 86 (some (.int .i64 32))).run Tryz.prog w = .ok (.map (some w.heap.size)) (w.alloc (.map #[] 0)) := fun w => rfl
  go_enter Tryz.func58, Tryz.ntmps58
  go_wp2
  go_ret
  exact ⟨w.heap.size, w.heap.size + 1, w.heap.size + 2, rfl, (((Upd.refl _ _).alloc _).alloc _).alloc _, by omega, ((Blk.new w (ltab nilw (w.heap.size + 1) (w.heap.size + 2)) _).alloc _).alloc _, (Blk.new_at (by simp) _ _).alloc _, obj_new (by simp) _⟩

set_option maxHeartbeats 400000 in
theorem new_table (L : Option Addr) (w : World) : Calls Tryz.prog 15 #[.pointer L] w fun e w' => ∃ T A m, e = .returned (.pointer (some ⟨T, 0, none⟩)) ∧ NewT w w' T A m := by
  go_enter Tryz.func15, Tryz.ntmps15
  go_wp2_with fail
  refine (new_ltable _).mono ?_
  rintro e w' ⟨T, A, m, rfl, h⟩
  have H := Lib.hid h
  clear h
  go_wp2
  go_ret
  exact ⟨T, A, m, rfl, H.out⟩

end Go.Proofs.YtlmadbgpllokfaaGreatFmt
