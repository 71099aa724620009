/- Stores into maps, look-ups and deletes at the operation, by the list of entries. -/
import Derived.Test.YtlmadbgpllokfaaGreatFmtHeapy
import Derived.Test.YtlmadbgpllokfaaGreatFmtMapy3
import Derived.Maps.Own
import Derived.Maps.AppendAt
import Derived.OwnWalk
namespace Go
open Go.RowKit Go.Mapy

/-- What a store leaves. -/
def PutTo (eqv : Value → Value → Bool) (k v : Value) (es es' : List MapEntry) : Prop :=
  (spot eqv k es 0 = none ∧ ∃ n, es' = es ++ [⟨k, v, n⟩]) ∨ (∃ i v0 e0 k' n, spot eqv k es 0 = some (i, v0) ∧ es[i]? = some e0 ∧ (k' = k ∨ k' = e0.key) ∧ es' = es.set i ⟨k', v, n⟩)

theorem upd_setMap {w : World} {b : Nat} {es0 : Array MapEntry} {c0 : Nat} (_hb : w.heap[b]? = some (.map es0 c0)) (es : Array MapEntry) (c : Nat) : Upd (fun x => x = b) w (setMap w b es c) :=
  ⟨rfl, rfl, rfl, by simp [setMap], fun k _ hk => by simp only [setMap]; rw [Array.getElem?_setIfInBounds]; rw [if_neg (fun e => hk e.symm)]⟩
theorem map_setMap {w : World} {b : Nat} {es0 : Array MapEntry} {c0 : Nat} (hb : w.heap[b]? = some (.map es0 c0)) (es : Array MapEntry) (c : Nat) : (setMap w b es c).heap[b]? = some (.map es c) := by
  have := (Array.getElem?_eq_some_iff.1 hb).1
  simp only [setMap]
  rw [Array.getElem?_setIfInBounds, if_pos rfl, if_pos this]

/-- The stamps of a map's entries. -/
def Stamps (es : List MapEntry) (c : Nat) : Prop := (es.map (·.born)).Nodup ∧ ∀ x ∈ es, x.born < c
theorem stamps_nil (c : Nat) : Stamps [] c := ⟨List.nodup_nil, fun x h => absurd h (by simp)⟩
theorem stamps_push {es : List MapEntry} {c : Nat} (h : Stamps es c) (k v : Value) : Stamps (es ++ [⟨k, v, c⟩]) (c + 1) := by
  refine ⟨?_, fun x hx => ?_⟩
  · rw [List.map_append, List.nodup_append]
    refine ⟨h.1, by simp, fun a ha b hb => ?_⟩
    obtain ⟨x, hx, rfl⟩ := List.mem_map.1 ha
    have := h.2 x hx
    simp at hb
    omega
  · rcases List.mem_append.1 hx with h1 | h1
    · have := h.2 x h1; omega
    · simp at h1; subst h1; simp
theorem stamps_sub {es es' : List MapEntry} {c : Nat} (h : Stamps es c) (hs : es'.Sublist es) : Stamps es' c := ⟨h.1.sublist (hs.map _), fun x hx => h.2 x (hs.subset hx)⟩
theorem stamps_set {es : List MapEntry} {c i : Nat} (h : Stamps es c) {e0 : MapEntry} (he : es[i]? = some e0) (k v : Value) : Stamps (es.set i ⟨k, v, e0.born⟩) c := by
  have e1 : (es.set i ⟨k, v, e0.born⟩).map (·.born) = es.map (·.born) := by
    apply List.ext_getElem?
    intro j
    rw [List.getElem?_map, List.getElem?_map, List.getElem?_set]
    by_cases hj : i = j
    · subst hj
      have hl : i < es.length := (List.getElem?_eq_some_iff.1 he).1
      rw [if_pos rfl, if_pos hl, he]
      rfl
    · rw [if_neg hj]
  refine ⟨by rw [e1]; exact h.1, fun x hx => ?_⟩
  have h1 : x.born ∈ es.map (·.born) := by rw [← e1]; exact List.mem_map.2 ⟨x, hx, rfl⟩
  obtain ⟨y, hy, hyx⟩ := List.mem_map.1 h1
  have := h.2 y hy
  omega
/-- A map's block behind a store or a delete. -/
def Turned (w w' : World) (b : Nat) (es' : Array MapEntry) (c' : Nat) : Prop := w'.heap[b]? = some (.map es' c') ∧ ∀ es c, w.heap[b]? = some (.map es c) → Stamps es.toList c → Stamps es'.toList c'
theorem turned {w w' : World} {b : Nat} {es es' : Array MapEntry} {c c' : Nat} (hb : w.heap[b]? = some (.map es c)) (hb' : w'.heap[b]? = some (.map es' c')) (h : Stamps es.toList c → Stamps es'.toList c') : Turned w w' b es' c' :=
  ⟨hb', fun es1 c1 h1 hs => by rw [hb] at h1; cases h1; exact h hs⟩

theorem run_put {P : Program} {t kt e : TypeId} {eqv : Value → Value → Bool} {k v : Value} {es : Array MapEntry} {clock b : Nat} (w : World) (ht : P.underlying t = some (.map kt e)) (hb : w.heap[b]? = some (.map es clock)) (K : KeyRun P kt eqv k es.toList) :
    ∃ w' es' c', (Instr.mapUpdate t (.map (some b)) k v).run P w = .ok () w' ∧ Upd (fun x => x = b) w w' ∧ Turned w w' b es' c' ∧ PutTo eqv k v es.toList es'.toList := by
  cases hs : spot eqv k es.toList 0 with
  | none =>
    exact ⟨_, _, _, put_new w ht hb K hs, upd_setMap hb _ _, turned hb (map_setMap hb _ _) (fun h => by rw [Array.toList_push]; exact stamps_push h k v), .inl ⟨hs, clock, by simp⟩⟩
  | some p =>
    obtain ⟨i, v0⟩ := p
    obtain ⟨q, e0, hq, he, hv, _⟩ := spot_some hs
    obtain rfl : i = q := by omega
    have he' : es[i]? = some e0 := by simpa using he
    obtain ⟨k', n, hk', hr⟩ := put_old w ht hb K hs he'
    have hb' : (w.drewN n).heap[b]? = some (.map es clock) := hb
    have hl : i < es.toList.length := (List.getElem?_eq_some_iff.1 he).1
    have em : (es.modify i fun x => { x with key := k', val := v }).toList = es.toList.set i ⟨k', v, e0.born⟩ := by
      rw [Array.toList_modify]
      apply List.ext_getElem?
      intro j
      rw [List.getElem?_modify, List.getElem?_set]
      by_cases hj : i = j
      · subst hj
        rw [if_pos rfl, if_pos hl, he]
        simp
      · rw [if_neg hj]
        cases es.toList[j]? <;> simp [hj]
    refine ⟨_, _, _, hr, ((Upd.refl _ w).drewN n).trans (upd_setMap hb' _ _), turned hb (map_setMap hb' _ _) (fun h => by rw [em]; exact stamps_set h he k' v), .inr ⟨i, v0, e0, k', e0.born, hs, he, hk', em⟩⟩

/-- What a delete leaves. -/
def DropTo (eqv : Value → Value → Bool) (k : Value) (es es' : List MapEntry) : Prop :=
  (spot eqv k es 0 = none ∧ es' = es) ∨ (∃ i v0, spot eqv k es 0 = some (i, v0) ∧ es' = es.eraseIdx i)

theorem run_drop {P : Program} {t kt e : TypeId} {eqv : Value → Value → Bool} {k : Value} {es : Array MapEntry} {clock b : Nat} (w : World) (u : TypeId) (ht : P.underlying t = some (.map kt e)) (hb : w.heap[b]? = some (.map es clock)) (K : KeyRun P kt eqv k es.toList) :
    ∃ w' es' c', (∀ ty, (Builtin.delete_ #[t, u] ty #[.map (some b), k]).run P w = .ok (.tuple #[]) w') ∧ Upd (fun x => x = b) w w' ∧ Turned w w' b es' c' ∧ DropTo eqv k es.toList es'.toList := by
  cases hs : spot eqv k es.toList 0 with
  | none => exact ⟨_, _, _, fun ty => del_none w u ht hb K hs, upd_setMap hb _ _, turned hb (map_setMap hb _ _) (fun h => h), .inl ⟨hs, rfl⟩⟩
  | some p =>
    obtain ⟨i, v0⟩ := p
    refine ⟨_, _, _, fun ty => del_some w u ht hb K hs, upd_setMap hb _ _, turned hb (map_setMap hb _ _) (fun h => ?_), .inr ⟨i, v0, hs, ?_⟩⟩
    · rw [Array.toList_eraseIdxIfInBounds]
      exact stamps_sub h (List.eraseIdx_sublist ..)
    · rw [Array.toList_eraseIdxIfInBounds]
end Go
