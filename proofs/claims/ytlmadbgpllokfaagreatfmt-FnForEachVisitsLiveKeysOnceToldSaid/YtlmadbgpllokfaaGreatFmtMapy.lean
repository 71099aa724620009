/-
  Maps by their list of entries: look-up, store, delete, at keys that an equality of our own tells apart.
-/
import Derived.MapKept
import Derived.WideLaws
import Derived.Laws.NewFold
import Derived.Deep.Draws
namespace Go.Mapy

/-- The first entry whose key is equal: its place and its element. -/
def spot (eqv : Value → Value → Bool) (k : Value) : List MapEntry → Nat → Option (Nat × Value)
  | [], _ => none
  | e :: r, i => if eqv k e.key then some (i, e.val) else spot eqv k r (i + 1)

theorem run_findAsking {P : Program} {kt : TypeId} {eqv : Value → Value → Bool} {k : Value} (w : World) : ∀ (es : List MapEntry) (i : Nat), (∀ e ∈ es, (Op.equal kt k e.key).run P w = .ok (eqv k e.key) w) → (Instr.findAsking kt k es i).run P w = .ok (spot eqv k es i) w
  | [], i, _ => by simp [Instr.findAsking, spot]
  | e :: r, i, h => by
    have h1 := h e (by simp)
    have ih := run_findAsking w r (i + 1) (fun x hx => h x (by simp [hx]))
    unfold Instr.findAsking spot
    simp only [Sem.run_bind, h1, Result.andThen_ok]
    cases eqv k e.key
    · simp [ih]
    · simp

theorem run_findKey_iface {P : Program} {kt : TypeId} {ms : Array (String × TypeId)} {eqv : Value → Value → Bool} {k : Value} (w : World) (hu : P.underlying kt = some (.interface ms)) (es : List MapEntry) (h : ∀ e ∈ es, (Op.equal kt k e.key).run P w = .ok (eqv k e.key) w) : (Instr.findKey kt k es).run P w = .ok (spot eqv k es 0) w := by
  unfold Instr.findKey
  cases es with
  | nil => simp [run_underlying hu, Instr.findNow, spot]
  | cons e r =>
    have := run_findAsking (eqv := eqv) (kt := kt) (k := k) w (e :: r) 0 h
    simp [run_underlying hu, Instr.findNow, Instr.sameNow, this]

/-- Strings. -/
def seq : Value → Value → Bool
  | .string a, .string b => a == b
  | _, _ => false

theorem findNow_string {s : ByteArray} : ∀ (es : List MapEntry) (i : Nat), (∀ e ∈ es, ∃ t, e.key = .string t) → Instr.findNow .string (.string s) es i = some (spot seq (.string s) es i)
  | [], i, _ => rfl
  | e :: r, i, h => by
    obtain ⟨t, ht⟩ := h e (by simp)
    have ih := findNow_string (s := s) r (i + 1) (fun x hx => h x (by simp [hx]))
    unfold Instr.findNow spot
    rw [ht]
    by_cases hst : (s == t) = true
    · have h1 : Instr.sameNow .string (.string s) (.string t) = some true := congrArg some hst
      have h2 : seq (.string s) (.string t) = true := hst
      simp [h1, h2]
    · have h1 : Instr.sameNow .string (.string s) (.string t) = some false := congrArg some (by simpa using hst)
      have h2 : seq (.string s) (.string t) = false := by simpa [seq] using hst
      simp [h1, h2, ih]

theorem run_findKey_string {P : Program} {kt : TypeId} {s : ByteArray} (w : World) (hu : P.underlying kt = some .string) (es : List MapEntry) (h : ∀ e ∈ es, ∃ t, e.key = .string t) : (Instr.findKey kt (.string s) es).run P w = .ok (spot seq (.string s) es 0) w := by
  unfold Instr.findKey
  simp [run_underlying hu, findNow_string es 0 h]

/-- What the operations on a map ask of a key. -/
structure KeyRun (P : Program) (kt : TypeId) (eqv : Value → Value → Bool) (k : Value) (es : List MapEntry) : Prop where
  check : ∀ b w, (Instr.checkKey b 10000 kt k).run P w = .ok () w
  find : ∀ w, (Instr.findKey kt k es).run P w = .ok (spot eqv k es 0) w

theorem look_some {P : Program} {t kt e : TypeId} {eqv : Value → Value → Bool} {k v : Value} {es : Array MapEntry} {clock b i : Nat} (w : World) (ht : P.underlying t = some (.map kt e)) (hb : w.heap[b]? = some (.map es clock)) (K : KeyRun P kt eqv k es.toList) (hs : spot eqv k es.toList 0 = some (i, v)) (c : Bool) :
    (Instr.lookup t (.map (some b)) k c).run P w = .ok (if c then .tuple #[v, .bool true] else v) w := by
  simp [Instr.lookup, run_underlying ht, MapKept.run_getObj_map hb, K.check, K.find, hs, Result.andThen]

theorem look_none {P : Program} {t kt e : TypeId} {eqv : Value → Value → Bool} {k z : Value} {es : Array MapEntry} {clock b : Nat} (w : World) (ht : P.underlying t = some (.map kt e)) (hz : (zeroValue e).run P w = .ok z w) (hb : w.heap[b]? = some (.map es clock)) (K : KeyRun P kt eqv k es.toList) (hs : spot eqv k es.toList 0 = none) (c : Bool) :
    (Instr.lookup t (.map (some b)) k c).run P w = .ok (if c then .tuple #[z, .bool false] else z) w := by
  simp [Instr.lookup, run_underlying ht, MapKept.run_getObj_map hb, K.check, K.find, hs, hz, Result.andThen]

/-- The world with another map in block b. -/
def setMap (w : World) (b : Nat) (es : Array MapEntry) (clock : Nat) : World := { w with heap := w.heap.setIfInBounds b (.map es clock) }

theorem put_new {P : Program} {t kt e : TypeId} {eqv : Value → Value → Bool} {k v : Value} {es : Array MapEntry} {clock b : Nat} (w : World) (ht : P.underlying t = some (.map kt e)) (hb : w.heap[b]? = some (.map es clock)) (K : KeyRun P kt eqv k es.toList) (hs : spot eqv k es.toList 0 = none) :
    (Instr.mapUpdate t (.map (some b)) k v).run P w = .ok () (setMap w b (es.push { key := k, val := v, born := clock }) (clock + 1)) := by
  simp [Instr.mapUpdate, run_underlying ht, MapKept.run_getObj_map hb, K.check, K.find, hs, Result.andThen, MapKept.run_setObj_map _ hb, setMap]

theorem del_none {P : Program} {t kt e ty : TypeId} {eqv : Value → Value → Bool} {k : Value} {es : Array MapEntry} {clock b : Nat} (w : World) (u : TypeId) (ht : P.underlying t = some (.map kt e)) (hb : w.heap[b]? = some (.map es clock)) (K : KeyRun P kt eqv k es.toList) (hs : spot eqv k es.toList 0 = none) :
    (Builtin.delete_ #[t, u] ty #[.map (some b), k]).run P w = .ok (.tuple #[]) (setMap w b es clock) := by
  simp [Builtin.delete_, run_underlying ht, MapKept.run_getObj_map hb, K.check, K.find, hs, Result.andThen, MapKept.run_setObj_map _ hb, setMap]

theorem del_some {P : Program} {t kt e ty : TypeId} {eqv : Value → Value → Bool} {k v : Value} {es : Array MapEntry} {clock b i : Nat} (w : World) (u : TypeId) (ht : P.underlying t = some (.map kt e)) (hb : w.heap[b]? = some (.map es clock)) (K : KeyRun P kt eqv k es.toList) (hs : spot eqv k es.toList 0 = some (i, v)) :
    (Builtin.delete_ #[t, u] ty #[.map (some b), k]).run P w = .ok (.tuple #[]) (setMap w b (es.eraseIdxIfInBounds i) clock) := by
  simp [Builtin.delete_, run_underlying ht, MapKept.run_getObj_map hb, K.check, K.find, hs, Result.andThen, MapKept.run_setObj_map _ hb, setMap]

theorem put_old {P : Program} {t kt e : TypeId} {eqv : Value → Value → Bool} {k v v0 : Value} {es : Array MapEntry} {clock b i : Nat} {e0 : MapEntry} (w : World) (ht : P.underlying t = some (.map kt e)) (hb : w.heap[b]? = some (.map es clock)) (K : KeyRun P kt eqv k es.toList) (hs : spot eqv k es.toList 0 = some (i, v0)) (he : es[i]? = some e0) :
    ∃ (k' : Value) (n : Nat), (k' = k ∨ k' = e0.key) ∧ (Instr.mapUpdate t (.map (some b)) k v).run P w = .ok () (setMap (w.drewN n) b (es.modify i fun x => { x with key := k', val := v }) clock) := by
  by_cases hsame : Instr.sameBits 10000 e0.key k = true
  · refine ⟨k, 0, .inl rfl, ?_⟩
    simp [Instr.mapUpdate, run_underlying ht, MapKept.run_getObj_map hb, K.check, K.find, hs, he, Instr.keyThatStays, hsame, Result.andThen, MapKept.run_setObj_map _ hb, setMap]
    exact ⟨rfl, rfl, rfl⟩
  · have hf : Instr.sameBits 10000 e0.key k = false := by simpa using hsame
    by_cases hc : (Question.extern "map.whichKeyStays" 2).forced
    · refine ⟨k, 0, .inl rfl, ?_⟩
      simp [Instr.mapUpdate, run_underlying ht, MapKept.run_getObj_map hb, K.check, K.find, hs, he, Instr.keyThatStays, hf, hc, Result.andThen, MapKept.run_setObj_map _ hb, setMap]
      exact ⟨rfl, rfl, rfl⟩
    · have hb' : w.drew.heap[b]? = some (.map es clock) := hb
      by_cases hz : (Question.extern "map.whichKeyStays" 2).cut (w.tape w.drawn (Question.extern "map.whichKeyStays" 2)) = 0
      · refine ⟨k, 1, .inl rfl, ?_⟩
        simp [Instr.mapUpdate, run_underlying ht, MapKept.run_getObj_map hb, K.check, K.find, hs, he, Instr.keyThatStays, hf, hc, hz, Result.andThen, MapKept.run_setObj_map _ hb', setMap]
        exact ⟨rfl, rfl, rfl, rfl⟩
      · refine ⟨e0.key, 1, .inr rfl, ?_⟩
        simp [Instr.mapUpdate, run_underlying ht, MapKept.run_getObj_map hb, K.check, K.find, hs, he, Instr.keyThatStays, hf, hc, hz, Result.andThen, MapKept.run_setObj_map _ hb', setMap]
        exact ⟨rfl, rfl, rfl, rfl⟩
end Go.Mapy
