/-
  What a table of the program holds at a key: an array part and two maps; what a store does to it.
-/
import Derived.Test.YtlmadbgpllokfaaGreatFmtFl4
import Derived.Test.YtlmadbgpllokfaaGreatFmtMapy3
namespace Go.Tbl
open Go.Mapy Go.Fl

inductive Key where
  | num (b : Nat)
  | str (s : ByteArray)

/-- Equal keys: numbers as numbers, strings as strings. -/
def keq : Key → Key → Bool
  | .num a, .num b => FloatKind.f64.format.order a b == some .eq
  | .str s, .str t => s == t
  | _, _ => false

theorem ba_beq (s t : ByteArray) : (s == t) = true ↔ s = t := by
  cases s with | mk a => cases t with | mk b =>
  show (a == b) = true ↔ _
  simp

theorem keq_symm {a b : Key} (h : keq a b = true) : keq b a = true := by
  cases a <;> cases b <;> simp only [keq, beq_iff_eq, ba_beq] at h ⊢
  · exact eq_symm h
  · cases h
  · cases h
  · exact h.symm

theorem keq_trans {a b c : Key} (h : keq a b = true) (k : keq b c = true) : keq a c = true := by
  cases a <;> cases b <;> cases c <;> simp only [keq, beq_iff_eq, ba_beq, Bool.false_eq_true] at h k ⊢
  all_goals first | exact eq_trans h k | exact h.trans k

section
variable (tn ts : TypeId) (nl : Value)

/-- The key as a value of the program. -/
def kv : Key → Value
  | .num b => .iface tn (.float .f64 b)
  | .str s => .iface ts (.string s)

/-- Equality of such values. -/
def ieq : Value → Value → Bool
  | .iface t (.float .f64 a), .iface u (.float .f64 b) => t == tn && u == tn && FloatKind.f64.format.order a b == some .eq
  | .iface t (.string s), .iface u (.string r) => t == ts && u == ts && s == r
  | _, _ => false

theorem ieq_kv (a b : Key) : ieq tn ts (kv tn ts a) (kv tn ts b) = keq a b := by
  cases a <;> cases b <;> simp [ieq, kv, keq]

def IsKey (v : Value) : Prop := ∃ k, v = kv tn ts k

theorem iapart : Apart (ieq tn ts) (IsKey tn ts) where
  symm := by
    rintro _ _ ⟨a, rfl⟩ ⟨b, rfl⟩ h
    rw [ieq_kv] at h ⊢
    exact keq_symm h
  trans := by
    rintro _ _ _ ⟨a, rfl⟩ ⟨b, rfl⟩ ⟨c, rfl⟩ h k
    rw [ieq_kv] at h k ⊢
    exact keq_trans h k

def IsStr (v : Value) : Prop := ∃ s, v = .string s
theorem sapart : Apart seq IsStr where
  symm := by
    rintro _ _ ⟨a, rfl⟩ ⟨b, rfl⟩ h
    simp only [seq, ba_beq] at h ⊢
    exact h.symm
  trans := by
    rintro _ _ _ ⟨a, rfl⟩ ⟨b, rfl⟩ ⟨c, rfl⟩ h k
    simp only [seq, ba_beq] at h k ⊢
    exact h.trans k

/-- The parts of a table. -/
structure St where
  arr : List Value
  num : List MapEntry
  str : List MapEntry

/-- What a table holds at a key. -/
def look (S : St) : Key → Value
  | .num b => match akey b with
    | some i => (S.arr[i - 1]?).getD nl
    | none => (cont (ieq tn ts) (kv tn ts (.num b)) S.num).getD nl
  | .str s => (cont seq (.string s) S.str).getD nl

/-- An array part with v at place i, nil in between. -/
def setPad (l : List Value) (i : Nat) (v : Value) : List Value := if i < l.length then l.set i v else l ++ List.replicate (i - l.length) nl ++ [v]

theorem setPad_at (l : List Value) (i : Nat) (v : Value) (j : Nat) : ((setPad nl l i v)[j]?).getD nl = if j = i then v else (l[j]?).getD nl := by
  unfold setPad
  by_cases h : i < l.length
  · rw [if_pos h, List.getElem?_set]
    by_cases e : i = j
    · subst e; rw [if_pos rfl, if_pos h, if_pos rfl]; rfl
    · rw [if_neg e, if_neg (Ne.symm e)]
  · rw [if_neg h]
    by_cases e : j = i
    · subst e
      rw [if_pos rfl, List.getElem?_append_right (by simp; omega)]
      simp only [List.length_append, List.length_replicate]
      rw [show j - (l.length + (j - l.length)) = 0 by omega]
      rfl
    · rw [if_neg e]
      by_cases h1 : j < l.length
      · rw [List.getElem?_append_left (by simp; omega), List.getElem?_append_left h1]
      · rw [List.getElem?_eq_none (l := l) (by omega)]
        by_cases h2 : j < i
        · rw [List.getElem?_append_left (by simp; omega), List.getElem?_append_right (by omega), List.getElem?_replicate, if_pos (by omega)]
          rfl
        · rw [List.getElem?_eq_none (by simp; omega)]

theorem setPad_length (l : List Value) (i : Nat) (v : Value) : (setPad nl l i v).length = max l.length (i + 1) := by
  unfold setPad
  split <;> simp <;> omega

/-- A store into the array part. -/
theorem look_arr {S : St} {b i : Nat} (v : Value) (h : akey b = some i) (q : Key) :
    look tn ts nl { S with arr := setPad nl S.arr (i - 1) v } q = if keq q (.num b) then v else look tn ts nl S q := by
  have hi := akey_some h
  cases q with
  | str s => rfl
  | num c =>
    unfold look
    cases hc : akey c with
    | none =>
      have : keq (.num c) (.num b) = false := by
        cases hk : keq (.num c) (.num b)
        · rfl
        · simp only [keq, beq_iff_eq] at hk
          rw [akey_eq h hk] at hc
          cases hc
      simp only [hc, this, Bool.false_eq_true, if_false]
    | some j =>
      have hj := akey_some hc
      simp only [hc, setPad_at]
      by_cases e : j = i
      · subst e
        have : keq (.num c) (.num b) = true := by simp only [keq, beq_iff_eq]; exact eq_akey hc h
        simp only [this, if_true]
      · have : keq (.num c) (.num b) = false := by
          cases hk : keq (.num c) (.num b)
          · rfl
          · simp only [keq, beq_iff_eq] at hk
            rw [akey_eq h hk] at hc
            exact absurd (Option.some.inj hc).symm e
        obtain ⟨_, _, h1, _⟩ := hi
        obtain ⟨_, _, h2, _⟩ := hj
        simp only [this, Bool.false_eq_true, if_false]
        rw [if_neg (by omega)]

/-- What the entries hold behind a store of v (nil: a deletion) at k. -/
def Put (eqv : Value → Value → Bool) (D : Value → Prop) (k v : Value) (isNil : Bool) (es es' : List MapEntry) : Prop :=
  ∀ k', D k' → cont eqv k' es' = if eqv k' k then (if isNil then none else some v) else cont eqv k' es

/-- A store into the map of numbers. -/
theorem look_num {S : St} {b : Nat} {v : Value} {isNil : Bool} {es : List MapEntry} (hv : isNil = true → v = nl) (h : akey b = none) (hp : Put (ieq tn ts) (IsKey tn ts) (kv tn ts (.num b)) v isNil S.num es) (q : Key) :
    look tn ts nl { S with num := es } q = if keq q (.num b) then v else look tn ts nl S q := by
  cases q with
  | str s => rfl
  | num c =>
    unfold look
    cases hc : akey c with
    | some j =>
      have : keq (.num c) (.num b) = false := by
        cases hk : keq (.num c) (.num b)
        · rfl
        · simp only [keq, beq_iff_eq] at hk
          rw [akey_eq hc (eq_symm hk)] at h
          cases h
      simp only [hc, this, Bool.false_eq_true, if_false]
    | none =>
      simp only [hc]
      rw [hp _ ⟨_, rfl⟩, ieq_kv]
      cases hk : keq (.num c) (.num b)
      · simp
      · cases hn : isNil
        · simp
        · simp only [if_true, Option.getD_none]
          exact (hv hn).symm

/-- A store at a number beside the array part: what the array part shows is not turned. -/
theorem look_num_any {S : St} {es : List MapEntry} (q : Key) (hq : ∀ c, q = .num c → (akey c).isSome = true) :
    look tn ts nl { S with num := es } q = look tn ts nl S q := by
  cases q with
  | str s => rfl
  | num c =>
    unfold look
    cases hc : akey c with
    | some j => simp only [hc]
    | none => have := hq c rfl; rw [hc] at this; cases this

/-- A store into the map of strings. -/
theorem look_str {S : St} {s : ByteArray} {v : Value} {isNil : Bool} {es : List MapEntry} (hv : isNil = true → v = nl) (hp : Put seq IsStr (.string s) v isNil S.str es) (q : Key) :
    look tn ts nl { S with str := es } q = if keq q (.str s) then v else look tn ts nl S q := by
  cases q with
  | num c => rfl
  | str r =>
    unfold look
    simp only
    rw [hp _ ⟨_, rfl⟩]
    have e : seq (.string r) (.string s) = (r == s) := rfl
    have e2 : keq (.str r) (.str s) = (r == s) := rfl
    rw [e, e2]
    cases hk : r == s
    · simp
    · cases hn : isNil
      · simp
      · simp only [if_true, Option.getD_none]
        exact (hv hn).symm

theorem look_empty (q : Key) : look tn ts nl ⟨[], [], []⟩ q = nl := by
  cases q with
  | num c =>
    unfold look
    cases hc : akey c <;> simp [hc, cont_nil]
  | str s => rfl

/-- Nothing is held at a number that equals no number. -/
theorem look_nan {S : St} {c : Nat} (hc : ∀ k, keq (.num c) k = false) (hS : ∀ e ∈ S.num, IsKey tn ts e.key) : look tn ts nl S (.num c) = nl := by
  unfold look
  cases ha : akey c with
  | some i =>
    have h := eq_akey ha ha
    have := hc (.num c)
    have h2 : keq (.num c) (.num c) = true := by simp only [keq, beq_iff_eq]; exact h
    rw [this] at h2
    cases h2
  | none =>
    have : cont (ieq tn ts) (kv tn ts (.num c)) S.num = none := cont_none.2 fun e he => by
      obtain ⟨k, hk⟩ := hS e he
      rw [hk, ieq_kv]
      exact hc k
    simp only [ha, this, Option.getD_none]
end
end Go.Tbl
