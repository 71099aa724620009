/-
  What a map's list of entries holds behind a store at a key that is there.
-/
import Derived.Test.YtlmadbgpllokfaaGreatFmtMapy2
namespace Go.Mapy

theorem cont_put {eqv : Value → Value → Bool} {D : Value → Prop} (A : Apart eqv D) {k k2 v : Value} {n : Nat} (hk : D k) (hk2 : D k2) (h2 : eqv k k2 = true) : ∀ {es : List MapEntry}, Fine eqv D es → ∀ {i : Nat} {e : MapEntry}, es[i]? = some e → eqv k e.key = true → ∀ k', D k' → cont eqv k' (es.set i ⟨k2, v, n⟩) = if eqv k' k then some v else cont eqv k' es
  | [], _, i, e, h, _, _, _ => by simp at h
  | x :: r, F, 0, e, h, he, k', hk' => by
    simp only [List.getElem?_cons_zero, Option.some.injEq] at h
    subst h
    have dx := (F.keys x (by simp)).1
    rw [List.set_cons_zero, cont_cons, cont_cons]
    cases h3 : eqv k' k
    · have a1 : eqv k' k2 = false := by
        cases h : eqv k' k2
        · rfl
        · have := A.trans k' k2 k hk' hk2 hk h (A.symm k k2 hk hk2 h2); rw [h3] at this; cases this
      have a2 : eqv k' x.key = false := by
        cases h : eqv k' x.key
        · rfl
        · have := A.trans k' x.key k hk' dx hk h (A.symm k x.key hk dx he); rw [h3] at this; cases this
      simp [a1, a2]
    · have a1 := A.trans k' k k2 hk' hk hk2 h3 h2
      simp [a1]
  | x :: r, F, i + 1, e, h, he, k', hk' => by
    have dx := (F.keys x (by simp)).1
    have F' : Fine eqv D r := ⟨fun y hy => F.keys y (by simp [hy]), (List.pairwise_cons.1 F.two).2⟩
    have h' : r[i]? = some e := by simpa using h
    rw [List.set_cons_succ, cont_cons, cont_cons, cont_put A hk hk2 h2 F' h' he k' hk']
    cases h1 : eqv k' x.key
    · simp
    · cases h2 : eqv k' k
      · simp
      · exfalso
        have me : e ∈ r := List.mem_of_getElem? h'
        have de := (F'.keys e me).1
        have h3 := A.trans x.key k' k dx hk' hk (A.symm k' x.key hk' dx h1) h2
        have h4 := A.trans x.key k e.key dx hk de h3 he
        have := (List.pairwise_cons.1 F.two).1 e me
        rw [h4] at this; cases this

theorem fine_put {eqv : Value → Value → Bool} {D : Value → Prop} (A : Apart eqv D) {k k2 v : Value} {n : Nat} (hk : D k) (hk2 : D k2) (h2 : eqv k k2 = true) : ∀ {es : List MapEntry}, Fine eqv D es → ∀ {i : Nat} {e : MapEntry}, es[i]? = some e → eqv k e.key = true → Fine eqv D (es.set i ⟨k2, v, n⟩)
  | [], _, i, e, h, _ => by simp at h
  | x :: r, F, 0, e, h, he => by
    simp only [List.getElem?_cons_zero, Option.some.injEq] at h
    subst h
    have dx := (F.keys x (by simp)).1
    have hx2 := A.trans x.key k k2 dx hk hk2 (A.symm k x.key hk dx he) h2
    have h22 := A.trans k2 k k2 hk2 hk hk2 (A.symm k k2 hk hk2 h2) h2
    rw [List.set_cons_zero]
    refine ⟨fun y hy => ?_, ?_⟩
    · rcases List.mem_cons.1 hy with rfl | hy
      · exact ⟨hk2, h22⟩
      · exact F.keys y (by simp [hy])
    · rw [List.pairwise_cons]
      refine ⟨fun y hy => ?_, (List.pairwise_cons.1 F.two).2⟩
      cases h3 : eqv k2 y.key
      · rfl
      · exfalso
        have := A.trans x.key k2 y.key dx hk2 (F.keys y (by simp [hy])).1 hx2 h3
        rw [(List.pairwise_cons.1 F.two).1 y hy] at this; cases this
  | x :: r, F, i + 1, e, h, he => by
    have dx := (F.keys x (by simp)).1
    have F' : Fine eqv D r := ⟨fun y hy => F.keys y (by simp [hy]), (List.pairwise_cons.1 F.two).2⟩
    have h' : r[i]? = some e := by simpa using h
    have me : e ∈ r := List.mem_of_getElem? h'
    have de := (F'.keys e me).1
    have G := fine_put A (v := v) (n := n) hk hk2 h2 F' h' he
    rw [List.set_cons_succ]
    refine ⟨fun y hy => ?_, ?_⟩
    · rcases List.mem_cons.1 hy with rfl | hy
      · exact F.keys y (by simp)
      · exact G.keys y hy
    · rw [List.pairwise_cons]
      refine ⟨fun y hy => ?_, G.two⟩
      rcases List.mem_or_eq_of_mem_set hy with hy | rfl
      · exact (List.pairwise_cons.1 F.two).1 y hy
      · cases h3 : eqv x.key k2
        · rfl
        · exfalso
          have h4 := A.trans x.key k2 k dx hk2 hk h3 (A.symm k k2 hk hk2 h2)
          have := A.trans x.key k e.key dx hk de h4 he
          rw [(List.pairwise_cons.1 F.two).1 e me] at this; cases this
end Go.Mapy
