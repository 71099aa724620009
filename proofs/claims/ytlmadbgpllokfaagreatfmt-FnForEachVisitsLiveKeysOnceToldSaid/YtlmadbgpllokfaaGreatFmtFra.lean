/- A range over a map, by its list of entries: the step at the operation; what is left, as a list. -/
import Derived.Test.YtlmadbgpllokfaaGreatFmtLis
import Derived.Maps.RangeWalk
namespace Go.Proofs.YtlmadbgpllokfaaGreatFmt
open Go.RowKit Go.Mapy Go.Tbl Go.ChangeMaps
set_option maxRecDepth 100000

theorem filter_one {e : MapEntry} : ∀ {l : List MapEntry}, (l.map (·.born)).Nodup → e ∈ l → l.filter (fun x => x.born == e.born) = [e]
  | [], _, h => by simp at h
  | x :: r, hn, h => by
    rw [List.map_cons, List.nodup_cons] at hn
    rcases List.mem_cons.1 h with rfl | h
    · rw [List.filter_cons, if_pos (by simp)]
      congr 1
      rw [List.filter_eq_nil_iff]
      intro y hy hb
      exact hn.1 (List.mem_map.2 ⟨y, hy, by simpa using hb⟩)
    · rw [List.filter_cons, if_neg]
      · exact filter_one hn.2 h
      · intro hb
        exact hn.1 (List.mem_map.2 ⟨e, h, by simpa using (by simpa using hb : x.born = e.born).symm⟩)
theorem left_perm {es : Array MapEntry} {seen : Array Nat} (hn : (es.toList.map (·.born)).Nodup) {e : MapEntry} (he : e ∈ (leftOf es seen).toList) : (leftOf es seen).toList.Perm (e :: (leftOf es (seen.push e.born)).toList) := by
  have hl : (leftOf es seen).toList = es.toList.filter fun x => !seen.contains x.born := by unfold leftOf; rw [Array.toList_filter]
  have hl2 : (leftOf es (seen.push e.born)).toList = (leftOf es seen).toList.filter fun x => !(x.born == e.born) := by
    rw [hl, List.filter_filter]
    unfold leftOf
    rw [Array.toList_filter]
    apply List.filter_congr
    intro x _
    rw [contains_push]
    cases seen.contains x.born <;> cases x.born == e.born <;> rfl
  have hn2 : ((leftOf es seen).toList.map (·.born)).Nodup := by
    rw [hl]
    exact hn.sublist (List.filter_sublist.map _)
  rw [hl2, ← List.singleton_append, ← filter_one hn2 he]
  exact (List.filter_append_perm _ _).symm

theorem entP_perm {f : Value → Value} {l l' : List MapEntry} (h : l.Perm l') : (entP f l).Perm (entP f l') := h.filterMap _
theorem entP_cons_live {f : Value → Value} {e : MapEntry} {l : List MapEntry} (h : isNilw e.val = false) : entP f (e :: l) = (f e.key, e.val) :: entP f l := by
  unfold entP
  rw [List.filterMap_cons, live_yes h]
theorem entP_cons_dead {f : Value → Value} {e : MapEntry} {l : List MapEntry} (h : isNilw e.val = true) : entP f (e :: l) = entP f l := by
  unfold entP
  rw [List.filterMap_cons, live_no h]
/-- What has been visited, what is left. -/
def Vis (f : Value → Value) (es : Array MapEntry) (seen : Array Nat) (vs : List Pair) : Prop := (vs ++ entP f (leftOf es seen).toList).Perm (entP f es.toList)
theorem vis_start (f : Value → Value) (es : Array MapEntry) : Vis f es #[] [] := by
  unfold Vis
  rw [List.nil_append]
  have : leftOf es #[] = es := by
    unfold leftOf
    exact Array.filter_eq_self.2 (fun x _ => by simp)
  rw [this]

theorem Vis.live {f : Value → Value} {es : Array MapEntry} {seen : Array Nat} {vs : List Pair} (h : Vis f es seen vs) (hn : (es.toList.map (·.born)).Nodup) {e : MapEntry} (he : e ∈ (leftOf es seen).toList) (hv : isNilw e.val = false) : Vis f es (seen.push e.born) (vs ++ [(f e.key, e.val)]) := by
  unfold Vis at *
  refine List.Perm.trans ?_ h
  rw [List.append_assoc, List.singleton_append, ← entP_cons_live (f := f) hv]
  exact List.Perm.append_left _ (entP_perm (left_perm hn he).symm)
theorem Vis.dead {f : Value → Value} {es : Array MapEntry} {seen : Array Nat} {vs : List Pair} (h : Vis f es seen vs) (hn : (es.toList.map (·.born)).Nodup) {e : MapEntry} (he : e ∈ (leftOf es seen).toList) (hv : isNilw e.val = true) : Vis f es (seen.push e.born) vs := by
  unfold Vis at *
  refine List.Perm.trans ?_ h
  rw [← entP_cons_dead (f := f) (e := e) hv]
  exact List.Perm.append_left _ (entP_perm (left_perm hn he).symm)
theorem Vis.lt {f : Value → Value} {es : Array MapEntry} {seen : Array Nat} {vs : List Pair} (h : Vis f es seen vs) {e : MapEntry} (he : e ∈ (leftOf es seen).toList) (hv : isNilw e.val = false) : vs.length < (entP f es.toList).length := by
  unfold Vis at h
  have h1 := h.length_eq
  have h2 : 0 < (entP f (leftOf es seen).toList).length := List.length_pos_of_mem (mem_entP.2 ⟨e, he, rfl, hv⟩)
  rw [List.length_append] at h1
  omega
theorem Vis.done {f : Value → Value} {es : Array MapEntry} {seen : Array Nat} {vs : List Pair} (h : Vis f es seen vs) (h0 : (leftOf es seen).size = 0) : vs.Perm (entP f es.toList) := by
  unfold Vis at h
  rw [Array.eq_empty_of_size_eq_zero h0] at h
  simpa [entP] using h

/-- Nothing is left. -/
def Left0 (es : Array MapEntry) (seen : Array Nat) : Prop := (leftOf es seen).size = 0
/-- An entry that is left comes out; the tape may have been asked. -/
structure Come (es : Array MapEntry) (seen : Array Nat) (w : World) (e : MapEntry) (w1 : World) : Prop where
  mem : e ∈ (leftOf es seen).toList
  alike : w1 = w ∨ w1 = w.drew
/-- The step at the operation. -/
theorem wpList_next_at {P : Program} {w : World} {ops : Array Oper} {rest : List Oper} {o : Oper} {a : Act} {Q : Exit → Act → World → Prop} (hg : o.guard = none) (it : Operand) (hop : o.op = Op.next it false) {r bm since c0 : Nat} {seen : Array Nat} {es : Array MapEntry} {clock : Nat}
    (hit : a.eval it = .pointer (some ⟨r, 0, none⟩)) (hr : w.heap[r]? = some (.mapIter (some bm) since seen c0)) (hb : w.heap[bm]? = some (.map es clock)) (hold : ∀ x ∈ es.toList, x.born < since) (hsc : since ≤ c0)
    (hDone : Left0 es seen → wpList P ops Q rest (a.put o.dst (.tuple #[.bool false])) w)
    (hMore : ∀ (e : MapEntry) (w1 : World), Come es seen w e w1 → wpList P ops Q rest (a.put o.dst (.tuple #[.bool true, e.key, e.val])) (setBlock w1 r (.mapIter (some bm) since (seen.push e.born) clock))) : wpList P ops Q (o :: rest) a w := by
  refine wpList_plain hg fun K' hK' => ?_
  unfold Oper.wp
  rcases run_next_at (P := P) w o.type r bm since c0 seen es clock hr hb hold hsc with ⟨h0, hrun⟩ | ⟨e, he, w1, hal, hrun⟩
  · simp [execOp, hop, hit, hrun, Result.andThen]
    exact hK' _ _ (hDone h0)
  · simp [execOp, hop, hit, hrun, Result.andThen]
    exact hK' _ _ (hMore e w1 ⟨he, hal⟩)

theorem nq_map_nil (t kt e : TypeId) (hu : Tryz.prog.underlying t = some (.map kt e)) (b : Option Nat) (w : World) : (binOp .neq t (.map b) (.map none)).run Tryz.prog w = .ok (.bool (!b.isNone)) w := by
  have h : ∀ d : Nat, (Op.equalIn (d + 1) t (.map b) (.map none)).run Tryz.prog w = .ok b.isNone w := fun d => by
    cases b
    · simp only [Op.equalIn, Sem.run_bind, run_underlying hu, Result.andThen_ok]; rfl
    · simp only [Op.equalIn, Sem.run_bind, run_underlying hu, Result.andThen_ok]; rfl
  simp only [binOp]
  simp [Op.equal, Op.maxDepth, h 9999]
@[go_sem] theorem nq_mapS (b : Option Nat) (w : World) : (binOp .neq 86 (.map b) (.map none)).run Tryz.prog w = .ok (.bool (!b.isNone)) w := nq_map_nil _ _ _ Tryz.underlying86 b w
@[go_sem] theorem nq_mapN (b : Option Nat) (w : World) : (binOp .neq 85 (.map b) (.map none)).run Tryz.prog w = .ok (.bool (!b.isNone)) w := nq_map_nil _ _ _ Tryz.underlying85 b w

/-- What a callback may write: no block of the table, no iterator. -/
def Cbs (t : Tbs) (w : World) (c : Nat) : Prop := ¬ Fp t c ∧ ∀ a b s d, w.heap[c]? ≠ some (.mapIter a b s d)
/-- The iterators' blocks. -/
def Its (w : World) (c : Nat) : Prop := ∃ a b s d, w.heap[c]? = some (.mapIter a b s d)
theorem upd_setBlock {w : World} {r : Nat} {m : Option Nat} {s : Nat} {seen : Array Nat} {c : Nat} (hr : w.heap[r]? = some (.mapIter m s seen c)) {w1 : World} (h1 : w1 = w ∨ w1 = w.drew) (o : Obj) : Upd (fun c => c = r) w (setBlock w1 r o) ∧ (setBlock w1 r o).heap[r]? = some o := by
  have hlt : r < w.heap.size := (Array.getElem?_eq_some_iff.1 hr).1
  have key : ∀ w1 : World, w1.heap = w.heap → w1.os = w.os → w1.tape = w.tape → w1.output = w.output → Upd (fun c => c = r) w (setBlock w1 r o) ∧ (setBlock w1 r o).heap[r]? = some o := fun w1 e1 e2 e3 e4 => by
    refine ⟨⟨e2, e3, e4, ?_, fun k hk hs => ?_⟩, ?_⟩
    · simp [setBlock, e1]
    · simp only [setBlock, e1]
      rw [Array.getElem?_setIfInBounds, if_neg (fun e => hs e.symm)]
    · simp only [setBlock, e1]
      rw [Array.getElem?_setIfInBounds, if_pos rfl, if_pos hlt]
  rcases h1 with rfl | rfl
  · exact key _ rfl rfl rfl rfl
  · exact key _ rfl rfl rfl rfl
end Go.Proofs.YtlmadbgpllokfaaGreatFmt
