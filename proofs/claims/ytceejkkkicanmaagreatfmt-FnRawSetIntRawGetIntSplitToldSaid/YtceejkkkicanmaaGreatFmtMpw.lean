/- Stores into maps, look-ups and deletes at the operation, by the list of entries. -/
import Derived.Test.YtceejkkkicanmaaGreatFmtHeapy
import Derived.Test.YtceejkkkicanmaaGreatFmtMapy3
import Derived.Maps.Own
import Derived.Maps.AppendAt
import Derived.OwnWalk
namespace Go
open Go.RowKit Go.Mapy

/-- What a store leaves. -/
def PutTo (eqv : Value → Value → Bool) (k v : Value) (es es' : List MapEntry) : Prop :=
  (spot eqv k es 0 = none ∧ ∃ n, es' = es ++ [⟨k, v, n⟩]) ∨ (∃ i v0 e0 k' n, spot eqv k es 0 = some (i, v0) ∧ es[i]? = some e0 ∧ (k' = k ∨ k' = e0.key) ∧ es' = es.set i ⟨k', v, n⟩)

theorem upd_setMap {w : World} {b : Nat} {es0 : Array MapEntry} {c0 : Nat} (_hb : w.heap[b]? = some (.map es0 c0)) (es : Array MapEntry) (c : Nat) : Upd (fun x => x = b) w (setMap w b es c) :=
  ⟨rfl, rfl, rfl, by simp [setMap], fun k _ hk => by simp only [setMap]; rw [Array.getElem?_setIfInBounds]; rw [if_neg (fun e => hk e.symm)]⟩
theorem map_setMap {w : World} {b : Nat} {es0 : Array MapEntry} {c0 : Nat} (hb : w.heap[b]? = some (.map es0 c0)) (es : Array MapEntry) (c : Nat) : (setMap w b es c).heap[b]? = some (.map es c) := by
  have := (Array.getElem?_eq_some_iff.1 hb).1
  simp only [setMap]
  rw [Array.getElem?_setIfInBounds, if_pos rfl, if_pos this]

theorem run_put {P : Program} {t kt e : TypeId} {eqv : Value → Value → Bool} {k v : Value} {es : Array MapEntry} {clock b : Nat} (w : World) (ht : P.underlying t = some (.map kt e)) (hb : w.heap[b]? = some (.map es clock)) (K : KeyRun P kt eqv k es.toList) :
    ∃ w' es' c', (Instr.mapUpdate t (.map (some b)) k v).run P w = .ok () w' ∧ Upd (fun x => x = b) w w' ∧ w'.heap[b]? = some (.map es' c') ∧ PutTo eqv k v es.toList es'.toList := by
  cases hs : spot eqv k es.toList 0 with
  | none =>
    exact ⟨_, _, _, put_new w ht hb K hs, upd_setMap hb _ _, map_setMap hb _ _, .inl ⟨hs, clock, by simp⟩⟩
  | some p =>
    obtain ⟨i, v0⟩ := p
    obtain ⟨q, e0, hq, he, hv, _⟩ := spot_some hs
    obtain rfl : i = q := by omega
    have he' : es[i]? = some e0 := by simpa using he
    obtain ⟨k', n, hk', hr⟩ := put_old w ht hb K hs he'
    have hb' : (w.drewN n).heap[b]? = some (.map es clock) := hb
    refine ⟨_, _, _, hr, ?_, map_setMap hb' _ _, .inr ⟨i, v0, e0, k', e0.born, hs, he, hk', ?_⟩⟩
    · exact ((Upd.refl _ w).drewN n).trans (upd_setMap hb' _ _)
    · rw [Array.toList_modify]
      apply List.ext_getElem?
      intro j
      rw [List.getElem?_modify, List.getElem?_set]
      by_cases hj : i = j
      · subst hj
        have hl : i < es.toList.length := (List.getElem?_eq_some_iff.1 he).1
        rw [if_pos rfl, if_pos hl, he]
        simp
      · rw [if_neg hj]
        cases es.toList[j]? <;> simp [hj]

/-- 'm[k] = v' at the operation. -/
theorem wpList_put {P : Program} {w : World} {ops : Array Oper} {rest : List Oper} {o : Oper} {a : Act} {Q : Exit → Act → World → Prop} (hg : o.guard = none) (m x v : Operand) (t : TypeId) (hop : o.op = Op.mapUpdate t m x v)
    {kt e : TypeId} {eqv : Value → Value → Bool} {es : Array MapEntry} {clock b : Nat} {key val : Value} (hm : a.eval m = .map (some b)) (hx : a.eval x = key) (hv : a.eval v = val)
    (ht : P.underlying t = some (.map kt e)) (hb : w.heap[b]? = some (.map es clock)) (K : KeyRun P kt eqv key es.toList)
    (hK : ∀ w' es' c', Upd (fun x => x = b) w w' → w'.heap[b]? = some (.map es' c') → PutTo eqv key val es.toList es'.toList → wpList P ops Q rest (a.put o.dst undef) w') : wpList P ops Q (o :: rest) a w := by
  refine wpList_plain hg fun K' hK' => ?_
  obtain ⟨w', es', c', hrun, h1, h2, h3⟩ := run_put (v := val) w ht hb K
  unfold Oper.wp
  simp [execOp, hop, hm, hx, hv, hrun, Result.andThen]
  exact hK' _ _ (hK w' es' c' h1 h2 h3)

/-- What a delete leaves. -/
def DropTo (eqv : Value → Value → Bool) (k : Value) (es es' : List MapEntry) : Prop :=
  (spot eqv k es 0 = none ∧ es' = es) ∨ (∃ i v0, spot eqv k es 0 = some (i, v0) ∧ es' = es.eraseIdx i)

theorem run_drop {P : Program} {t kt e : TypeId} {eqv : Value → Value → Bool} {k : Value} {es : Array MapEntry} {clock b : Nat} (w : World) (u : TypeId) (ht : P.underlying t = some (.map kt e)) (hb : w.heap[b]? = some (.map es clock)) (K : KeyRun P kt eqv k es.toList) :
    ∃ w' es' c', (∀ ty, (Builtin.delete_ #[t, u] ty #[.map (some b), k]).run P w = .ok (.tuple #[]) w') ∧ Upd (fun x => x = b) w w' ∧ w'.heap[b]? = some (.map es' c') ∧ DropTo eqv k es.toList es'.toList := by
  cases hs : spot eqv k es.toList 0 with
  | none => exact ⟨_, _, _, fun ty => del_none w u ht hb K hs, upd_setMap hb _ _, map_setMap hb _ _, .inl ⟨hs, rfl⟩⟩
  | some p =>
    obtain ⟨i, v0⟩ := p
    refine ⟨_, _, _, fun ty => del_some w u ht hb K hs, upd_setMap hb _ _, map_setMap hb _ _, .inr ⟨i, v0, hs, ?_⟩⟩
    rw [Array.toList_eraseIdxIfInBounds]
end Go
