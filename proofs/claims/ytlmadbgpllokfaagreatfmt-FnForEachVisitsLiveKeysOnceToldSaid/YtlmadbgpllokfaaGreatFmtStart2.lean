/- The pinned table of powers of ten, read. -/
import Derived.Test.YtlmadbgpllokfaaGreatFmtStart
namespace Go.Proofs.YtlmadbgpllokfaaGreatFmt
set_option maxRecDepth 100000
set_option maxHeartbeats 4000000 in
theorem pow_read (w : World) : DataW.trod (fun _ => ()) Tryz.prog w 0 (fun _ => true) false 8 304 powCells.toArray.toList = some (Go.Pinned.pow10Tab, []) := by kernel_rfl
set_option maxHeartbeats 4000000 in
theorem pow_block (os : Os) (args : Array Value) : ((startW os).forCall (fun _ _ => 0) ⟨#[], args, []⟩).memory.heap[13]? = some (.cells powCells.toArray 304 (0, 0)) := by kernel_rfl
set_option maxHeartbeats 4000000 in
theorem pow_var (os : Os) (args : Array Value) : ((startW os).forCall (fun _ _ => 0) ⟨#[], args, []⟩).memory.var? Tryz.prog "internal/strconv.pow10Tab" = some powCells.toArray := by kernel_rfl
theorem pow_named : Tryz.prog.globalNamed "internal/strconv.pow10Tab" = some 13 := by kernel_rfl
theorem pow_type : (Tryz.prog.globals[13]?).map (·.type) = some 304 := by kernel_rfl
theorem pow_ints : powCells.toArray.toList.all (fun v => match v with | .int _ _ => true | _ => false) = true := by kernel_rfl

theorem in_one_ints {P : Program} {w : World} {n : String} {d : DataW Unit} {g : Nat} {t t' : TypeId} {cs : Array Value} {fuel : Nat}
    (hg : P.globalNamed n = some g) (ht : (P.globals[g]?).map (·.type) = some t) (hv : w.var? P n = some cs) (hb : w.heap[g]? = some (.cells cs t' (0, 0))) (hread : DataW.trod (fun _ => ()) P w 0 (fun _ => true) false fuel t cs.toList = some (d, []))
    (hi : cs.toList.all (fun v => match v with | .int _ _ => true | _ => false) = true) : LaidIn P w [(n, d)] [g] := by
  have hrow : ∀ x ∈ MemPlace.row ⟨g, 0, none⟩ cs.size, x.block = g ∧ ∃ o, x = .cell g o := by
    intro x hp
    simp only [MemPlace.row, List.mem_map, List.mem_range] at hp
    obtain ⟨i, _, rfl⟩ := hp
    exact ⟨rfl, _, rfl⟩
  refine LaidIn.one [g] hg ht hv hread (by rw [List.append_nil]; exact rowP_nodup _ _) ?_ ?_
  · intro b off hp
    rw [List.append_nil] at hp
    have h1 : b = g := (hrow _ hp).1
    subst h1
    refine ⟨⟨_, _, hb⟩, fun u v hc => ?_⟩
    have h2 : cs[off]? = some (.iface u v) := by
      have h3 : w.cell? ⟨b, off, none⟩ = cs[off]? := by simp [World.cell?, hb]
      rw [← h3]
      exact hc
    exfalso
    have h4 : Value.iface u v ∈ cs.toList := Array.mem_toList_iff.2 (Array.mem_of_getElem? h2)
    have := List.all_eq_true.1 hi _ h4
    cases this
  · intro x hp
    rw [List.append_nil] at hp
    rw [(hrow x hp).1]
    exact List.mem_singleton.2 rfl

theorem in_pow (os : Os) (args : Array Value) : LaidIn Tryz.prog ((startW os).forCall (fun _ _ => 0) ⟨#[], args, []⟩).memory [("internal/strconv.pow10Tab", Go.Pinned.pow10Tab)] [13] :=
  in_one_ints (cs := powCells.toArray) (fuel := 8) pow_named pow_type (pow_var os args) (pow_block os args) (pow_read _) pow_ints
end Go.Proofs.YtlmadbgpllokfaaGreatFmt
