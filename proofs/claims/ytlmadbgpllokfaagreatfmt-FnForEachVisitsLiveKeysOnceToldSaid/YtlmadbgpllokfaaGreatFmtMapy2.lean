/-
  What a map's list of entries holds, before and behind a store or a delete.
-/
import Derived.Test.YtlmadbgpllokfaaGreatFmtMapy
namespace Go.Mapy

/-- What the list holds at a key. -/
def cont (eqv : Value → Value → Bool) (k : Value) (es : List MapEntry) : Option Value := (spot eqv k es 0).map (·.2)

/-- Keys of D are told apart by eqv as by an equality (but a key need not equal itself). -/
structure Apart (eqv : Value → Value → Bool) (D : Value → Prop) : Prop where
  symm : ∀ a b, D a → D b → eqv a b = true → eqv b a = true
  trans : ∀ a b c, D a → D b → D c → eqv a b = true → eqv b c = true → eqv a c = true

/-- The entries' keys are of D, each equal to itself, no two equal. -/
structure Fine (eqv : Value → Value → Bool) (D : Value → Prop) (es : List MapEntry) : Prop where
  keys : ∀ e ∈ es, D e.key ∧ eqv e.key e.key = true
  two : es.Pairwise fun a b => eqv a.key b.key = false

theorem spot_shift (eqv : Value → Value → Bool) (k : Value) : ∀ (es : List MapEntry) (i j : Nat), spot eqv k es (i + j) = (spot eqv k es i).map fun p => (p.1 + j, p.2)
  | [], _, _ => rfl
  | e :: r, i, j => by
    unfold spot
    split
    · rfl
    · rw [show i + j + 1 = (i + 1) + j by omega]; exact spot_shift eqv k r (i + 1) j

theorem cont_nil (eqv : Value → Value → Bool) (k : Value) : cont eqv k [] = none := rfl
theorem cont_cons (eqv : Value → Value → Bool) (k : Value) (e : MapEntry) (r : List MapEntry) : cont eqv k (e :: r) = if eqv k e.key then some e.val else cont eqv k r := by
  unfold cont
  rw [show spot eqv k (e :: r) 0 = if eqv k e.key then some (0, e.val) else spot eqv k r (0 + 1) from rfl]
  split
  · rfl
  · rw [spot_shift eqv k r 0 1, Option.map_map]; rfl

theorem spot_none {eqv : Value → Value → Bool} {k : Value} : ∀ {es : List MapEntry} {i : Nat}, spot eqv k es i = none ↔ ∀ e ∈ es, eqv k e.key = false
  | [], _ => by simp [spot]
  | e :: r, i => by
    unfold spot
    cases h : eqv k e.key
    · simp [h, spot_none (es := r)]
    · simp [h]

theorem spot_some {eqv : Value → Value → Bool} {k v : Value} : ∀ {es : List MapEntry} {i j : Nat}, spot eqv k es i = some (j, v) → ∃ q e, j = i + q ∧ es[q]? = some e ∧ v = e.val ∧ eqv k e.key = true
  | [], _, _, h => by simp [spot] at h
  | e :: r, i, j, h => by
    unfold spot at h
    split at h
    · rename_i hk
      simp only [Option.some.injEq, Prod.mk.injEq] at h
      obtain ⟨rfl, rfl⟩ := h
      exact ⟨0, e, rfl, rfl, rfl, hk⟩
    · obtain ⟨q, e', h1, h2, h3, h4⟩ := spot_some h
      exact ⟨q + 1, e', by omega, by simpa using h2, h3, h4⟩

theorem cont_none {eqv : Value → Value → Bool} {k : Value} {es : List MapEntry} : cont eqv k es = none ↔ ∀ e ∈ es, eqv k e.key = false := by
  unfold cont
  rw [Option.map_eq_none_iff]
  exact spot_none

theorem cont_push {eqv : Value → Value → Bool} {D : Value → Prop} (A : Apart eqv D) {k v : Value} {n : Nat} (hk : D k) : ∀ {es : List MapEntry}, (∀ e ∈ es, D e.key) → (∀ e ∈ es, eqv k e.key = false) → ∀ k', D k' → cont eqv k' (es ++ [⟨k, v, n⟩]) = if eqv k' k then some v else cont eqv k' es
  | [], _, _, k', _ => by rw [List.nil_append, cont_cons]
  | e :: r, hd, hn, k', hk' => by
    rw [List.cons_append, cont_cons, cont_cons, cont_push A hk (fun x hx => hd x (by simp [hx])) (fun x hx => hn x (by simp [hx])) k' hk']
    cases h1 : eqv k' e.key
    · simp
    · cases h2 : eqv k' k
      · simp
      · exfalso
        have h3 := A.trans k k' e.key hk hk' (hd e (by simp)) (A.symm k' k hk' hk h2) h1
        rw [hn e (by simp)] at h3
        cases h3

theorem fine_push {eqv : Value → Value → Bool} {D : Value → Prop} (A : Apart eqv D) {k v : Value} {n : Nat} {es : List MapEntry} (F : Fine eqv D es) (hk : D k) (hr : eqv k k = true) (hn : ∀ e ∈ es, eqv k e.key = false) : Fine eqv D (es ++ [⟨k, v, n⟩]) := by
  refine ⟨fun e he => ?_, ?_⟩
  · rcases List.mem_append.1 he with h | h
    · exact F.keys e h
    · rw [List.mem_singleton] at h
      subst h
      exact ⟨hk, hr⟩
  · rw [List.pairwise_append]
    refine ⟨F.two, List.pairwise_singleton _ _, fun a ha b hb => ?_⟩
    rw [List.mem_singleton] at hb
    subst hb
    cases h : eqv a.key k
    · rfl
    · have := A.symm _ _ (F.keys a ha).1 hk h
      rw [hn a ha] at this
      cases this

theorem cont_drop {eqv : Value → Value → Bool} {D : Value → Prop} (A : Apart eqv D) {k : Value} (hk : D k) : ∀ {es : List MapEntry}, Fine eqv D es → ∀ {i : Nat} {e : MapEntry}, es[i]? = some e → eqv k e.key = true → ∀ k', D k' → cont eqv k' (es.eraseIdx i) = if eqv k' k then none else cont eqv k' es
  | [], _, i, e, h, _, _, _ => by simp at h
  | x :: r, F, 0, e, h, he, k', hk' => by
    simp only [List.getElem?_cons_zero, Option.some.injEq] at h
    subst h
    rw [List.eraseIdx_cons_zero, cont_cons]
    have dx := (F.keys x (by simp)).1
    cases h2 : eqv k' k
    · cases h1 : eqv k' x.key
      · simp
      · exfalso
        have := A.trans k' x.key k hk' dx hk h1 (A.symm k x.key hk dx he)
        rw [h2] at this; cases this
    · rw [if_pos rfl, cont_none]
      intro y hy
      cases h3 : eqv k' y.key
      · rfl
      · exfalso
        have dy := (F.keys y (by simp [hy])).1
        have h4 := A.trans x.key k k' dx hk hk' (A.symm k x.key hk dx he) (A.symm k' k hk' hk h2)
        have h5 := A.trans x.key k' y.key dx hk' dy h4 h3
        have := (List.pairwise_cons.1 F.two).1 y hy
        rw [h5] at this; cases this
  | x :: r, F, i + 1, e, h, he, k', hk' => by
    have dx := (F.keys x (by simp)).1
    have F' : Fine eqv D r := ⟨fun y hy => F.keys y (by simp [hy]), (List.pairwise_cons.1 F.two).2⟩
    have h' : r[i]? = some e := by simpa using h
    rw [List.eraseIdx_cons_succ, cont_cons, cont_cons, cont_drop A hk F' h' he k' hk']
    cases h1 : eqv k' x.key
    · simp
    · cases h2 : eqv k' k
      · simp
      · exfalso
        have me : e ∈ r := List.mem_of_getElem? h'
        have de := (F'.keys e me).1
        have h3 := A.trans x.key k' k dx hk' hk (A.symm k' x.key hk' dx h1) h2
        have h4 := A.trans x.key k e.key dx hk de h3 he
        have := (List.pairwise_cons.1 F.two).1 e me
        rw [h4] at this; cases this

theorem fine_drop {eqv : Value → Value → Bool} {D : Value → Prop} {es : List MapEntry} (F : Fine eqv D es) (i : Nat) : Fine eqv D (es.eraseIdx i) :=
  ⟨fun e he => F.keys e (List.mem_of_mem_eraseIdx he), F.two.sublist (List.eraseIdx_sublist ..)⟩
end Go.Mapy
