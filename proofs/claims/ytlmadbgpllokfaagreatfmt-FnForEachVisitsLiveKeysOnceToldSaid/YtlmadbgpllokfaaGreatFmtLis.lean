/- What a table's parts show, as a list of pairs of a key and a value; the keys in the order in which they were laid: plain. -/
import Derived.Test.YtlmadbgpllokfaaGreatFmtFsb
import Derived.Test.YtlmadbgpllokfaaGreatFmtFl5
import Derived.Test.YtlmadbgpllokfaaGreatFmtKey
namespace Go.Proofs.YtlmadbgpllokfaaGreatFmt
open Go.RowKit Go.Mapy Go.Tbl
set_option maxRecDepth 100000

def isNilw : Value → Bool
  | .iface t _ => t == 69
  | _ => false
theorem nilw_nil : isNilw nilw = true := by decide
theorem numv_nil (b : Nat) : isNilw (numv b) = false := by
  show ((53 : Nat) == 69) = false
  decide

abbrev Pair := Value × Value
/-- A pair whose value is not nil. -/
def live (k v : Value) : Option Pair := if isNilw v then none else some (k, v)
theorem live_some {k v : Value} {p : Pair} (h : live k v = some p) : p = (k, v) ∧ isNilw v = false := by
  unfold live at h
  cases hv : isNilw v
  · rw [hv] at h
    exact ⟨(Option.some.inj h).symm, rfl⟩
  · rw [hv] at h
    cases h
theorem live_yes {k v : Value} (h : isNilw v = false) : live k v = some (k, v) := by
  unfold live
  rw [h]
  rfl
theorem live_no {k v : Value} (h : isNilw v = true) : live k v = none := by
  unfold live
  rw [h]
  rfl

/-! ### the array part -/
def arrKey (i : Nat) : Value := kval (.num (FloatKind.f64.nearest ((i : Int) + 1)))
def arrAt (a : List Value) (i : Nat) : Option Pair := live (arrKey i) ((a[i]?).getD nilw)
def arrP (a : List Value) (lo : Nat) : List Pair := (List.range' lo (a.length - lo)).filterMap (arrAt a)
theorem arrP_end {a : List Value} {lo : Nat} (h : a.length ≤ lo) : arrP a lo = [] := by
  unfold arrP
  rw [show a.length - lo = 0 by omega]
  rfl
theorem arrP_none {a : List Value} {lo : Nat} (h : lo < a.length) (hn : isNilw ((a[lo]?).getD nilw) = true) : arrP a lo = arrP a (lo + 1) := by
  unfold arrP
  rw [show a.length - lo = (a.length - (lo + 1)) + 1 by omega, List.range'_succ, List.filterMap_cons, show arrAt a lo = none from live_no hn]
theorem arrP_some {a : List Value} {lo : Nat} (h : lo < a.length) (hn : isNilw ((a[lo]?).getD nilw) = false) : arrP a lo = (arrKey lo, (a[lo]?).getD nilw) :: arrP a (lo + 1) := by
  unfold arrP
  rw [show a.length - lo = (a.length - (lo + 1)) + 1 by omega, List.range'_succ, List.filterMap_cons, show arrAt a lo = some _ from live_yes hn]
theorem mem_arrP {a : List Value} {lo : Nat} {p : Pair} : p ∈ arrP a lo ↔ ∃ i, lo ≤ i ∧ i < a.length ∧ p = (arrKey i, (a[i]?).getD nilw) ∧ isNilw ((a[i]?).getD nilw) = false := by
  unfold arrP
  rw [List.mem_filterMap]
  constructor
  · rintro ⟨i, hi, hp⟩
    rw [List.mem_range'_1] at hi
    obtain ⟨h1, h2⟩ := live_some hp
    exact ⟨i, by omega, by omega, h1, h2⟩
  · rintro ⟨i, h1, h2, rfl, h4⟩
    exact ⟨i, by rw [List.mem_range'_1]; omega, live_yes h4⟩
theorem arr_akey {i : Nat} (h : i < 65536) : Fl.akey (FloatKind.f64.nearest ((i : Int) + 1)) = some (i + 1) := by
  rw [Fl.akey_int (by omega), if_pos (by omega)]
  congr 1

/-! ### keys -/
theorem keyEq_kv (a b : Key) : keyEq (kval a) (kval b) = keq a b := ieq_kv _ _ a b
/-- Two keys that are not equal, either way. -/
def Off (a b : Pair) : Prop := keyEq a.1 b.1 = false ∧ keyEq b.1 a.1 = false
theorem off_kv {a b : Pair} {p q : Key} (ha : a.1 = kval p) (hb : b.1 = kval q) (h : keq p q = false) : Off a b := by
  unfold Off
  rw [ha, hb, keyEq_kv, keyEq_kv, keq_comm q p]
  exact ⟨h, h⟩
theorem keq_akey {b c i : Nat} (h : keq (.num b) (.num c) = true) (hc : Fl.akey c = some i) : Fl.akey b = some i := by
  simp only [keq, beq_iff_eq] at h
  exact Fl.akey_eq hc h
theorem akey_keq {b c i : Nat} (hb : Fl.akey b = some i) (hc : Fl.akey c = some i) : keq (.num b) (.num c) = true := by
  simp only [keq, beq_iff_eq]
  exact Fl.eq_akey hb hc

theorem cont_same {eqv : Value → Value → Bool} {D : Value → Prop} (A : Apart eqv D) {k k' : Value} (hk : D k) (hk' : D k') (h : eqv k k' = true) : ∀ {es : List MapEntry}, (∀ e ∈ es, D e.key) → cont eqv k es = cont eqv k' es
  | [], _ => rfl
  | x :: r, hd => by
    rw [cont_cons, cont_cons, cont_same A hk hk' h (fun e he => hd e (by simp [he]))]
    have dx := hd x (by simp)
    have : eqv k x.key = eqv k' x.key := by
      cases h1 : eqv k x.key
      · cases h2 : eqv k' x.key
        · rfl
        · rw [A.trans k k' x.key hk hk' dx h h2] at h1; cases h1
      · rw [A.trans k' k x.key hk' hk dx (A.symm k k' hk hk' h) h1]
    rw [this]
theorem cont_mem {eqv : Value → Value → Bool} {D : Value → Prop} (A : Apart eqv D) : ∀ {es : List MapEntry}, Fine eqv D es → ∀ {e : MapEntry}, e ∈ es → cont eqv e.key es = some e.val
  | [], _, e, he => by simp at he
  | x :: r, F, e, he => by
    rw [cont_cons]
    rcases List.mem_cons.1 he with rfl | h
    · rw [if_pos (F.keys e (by simp)).2]
    · have h1 := (List.pairwise_cons.1 F.two).1 e h
      have : eqv e.key x.key = false := by
        cases h2 : eqv e.key x.key
        · rfl
        · rw [A.symm _ _ (F.keys e he).1 (F.keys x (by simp)).1 h2] at h1; cases h1
      rw [if_neg (by rw [this]; simp)]
      exact cont_mem A ⟨fun y hy => F.keys y (by simp [hy]), (List.pairwise_cons.1 F.two).2⟩ h
theorem cont_ex {eqv : Value → Value → Bool} {k v : Value} {es : List MapEntry} (h : cont eqv k es = some v) : ∃ e ∈ es, v = e.val ∧ eqv k e.key = true := by
  unfold cont at h
  obtain ⟨p, hp, hv⟩ := Option.map_eq_some_iff.1 h
  obtain ⟨q, e, _, he, h3, h4⟩ := spot_some (j := p.1) (v := p.2) hp
  exact ⟨e, List.mem_of_getElem? he, by rw [← hv, h3], h4⟩
theorem keyA : Apart keyEq isKey := iapart _ _

/-- What is held at equal keys is one. -/
theorem holds_same {S : St} (hS : ∀ e ∈ S.num, isKey e.key) {q q' : Key} (h : keq q q' = true) : holds S q = holds S q' := by
  cases q with
  | str s =>
    cases q' with
    | str s' =>
      have : s = s' := (ba_beq s s').1 h
      rw [this]
    | num b => cases h
  | num b =>
    cases q' with
    | str s' => cases h
    | num c =>
      cases hc : Fl.akey c with
      | some i =>
        obtain ⟨j, rfl⟩ : ∃ j, i = j + 1 := ⟨i - 1, by have := Fl.akey_some hc; omega⟩
        rw [holds_arr hc, holds_arr (keq_akey h hc)]
      | none =>
        have hb : Fl.akey b = none := by
          cases hb : Fl.akey b with
          | none => rfl
          | some i =>
            rw [keq_akey (keq_symm h) hb] at hc
            cases hc
        rw [holds_num hc, holds_num hb]
        rw [cont_same keyA ⟨_, rfl⟩ ⟨_, rfl⟩ (by rw [keyEq_kv]; exact h) hS]

theorem arr_self {i : Nat} (h : i < 65536) : keq (.num (FloatKind.f64.nearest ((i : Int) + 1))) (.num (FloatKind.f64.nearest ((i : Int) + 1))) = true := akey_keq (arr_akey (i := i) h) (arr_akey (i := i) h)
/-! ### lists that show a table -/
structure Lists (S : St) (L : List Pair) : Prop where
  sound : ∀ p ∈ L, ∃ q, p.1 = kval q ∧ keq q q = true ∧ p.2 = holds S q ∧ isNilw p.2 = false
  full : ∀ q, keq q q = true → isNilw (holds S q) = false → ∃ p ∈ L, keyEq p.1 (kval q) = true
  two : L.Pairwise Off

theorem Lists.perm {S : St} {L L' : List Pair} (h : Lists S L) (hp : L'.Perm L) : Lists S L' where
  sound := fun p hm => h.sound p (hp.mem_iff.1 hm)
  full := fun q h1 h2 => by
    obtain ⟨p, hm, hk⟩ := h.full q h1 h2
    exact ⟨p, hp.mem_iff.2 hm, hk⟩
  two := (hp.pairwise_iff (R := Off) (fun {_ _} h => ⟨h.2, h.1⟩)).2 h.two

theorem Lists.le {S : St} {L2 : List Pair} (h2 : Lists S L2) : ∀ (L1 M : List Pair), (∀ p ∈ L1, ∃ q, p.1 = kval q) → L1.Pairwise Off → (∀ p ∈ M, ∃ q, p.1 = kval q) → (∀ p ∈ L1, ∃ p' ∈ M, keyEq p'.1 p.1 = true) → L1.length ≤ M.length
  | [], M, _, _, _, _ => by simp
  | p :: r, M, hk, ht, hm, hf => by
    obtain ⟨p', hp', he⟩ := hf p (by simp)
    obtain ⟨A, B, rfl⟩ := List.append_of_mem hp'
    have ih := h2.le r (A ++ B) (fun x hx => hk x (by simp [hx])) (List.pairwise_cons.1 ht).2 (fun x hx => hm x (by
      rcases List.mem_append.1 hx with h | h
      · simp [h]
      · simp [h])) (fun x hx => by
      obtain ⟨y, hy, hyx⟩ := hf x (by simp [hx])
      rcases List.mem_append.1 hy with h | h
      · exact ⟨y, List.mem_append.2 (.inl h), hyx⟩
      · rcases List.mem_cons.1 h with rfl | h
        · exfalso
          obtain ⟨qp, ep⟩ := hk p (by simp)
          obtain ⟨qx, ex⟩ := hk x (by simp [hx])
          obtain ⟨qy, ey⟩ := hm y hp'
          have h3 := keyA.trans p.1 y.1 x.1 ⟨qp, ep⟩ ⟨qy, ey⟩ ⟨qx, ex⟩ (keyA.symm y.1 p.1 ⟨qy, ey⟩ ⟨qp, ep⟩ he) hyx
          rw [((List.pairwise_cons.1 ht).1 x hx).1] at h3
          cases h3
        · exact ⟨y, List.mem_append.2 (.inr h), hyx⟩)
    simp only [List.length_append, List.length_cons] at ih ⊢
    omega
theorem Lists.meets {S : St} {L1 L2 : List Pair} (h1 : Lists S L1) (h2 : Lists S L2) {p : Pair} (hp : p ∈ L1) : ∃ p' ∈ L2, keyEq p'.1 p.1 = true := by
  obtain ⟨q, e1, e2, e3, e4⟩ := h1.sound p hp
  obtain ⟨p', hp', he⟩ := h2.full q e2 (by rw [← e3]; exact e4)
  exact ⟨p', hp', by rw [e1]; exact he⟩
theorem Lists.key {S : St} {L : List Pair} (h : Lists S L) {p : Pair} (hp : p ∈ L) : ∃ q, p.1 = kval q := by
  obtain ⟨q, e1, _⟩ := h.sound p hp
  exact ⟨q, e1⟩
theorem Lists.length {S : St} {L1 L2 : List Pair} (h1 : Lists S L1) (h2 : Lists S L2) : L1.length = L2.length :=
  Nat.le_antisymm (h2.le L1 L2 (fun _ h => h1.key h) h1.two (fun _ h => h2.key h) (fun _ h => h1.meets h2 h)) (h1.le L2 L1 (fun _ h => h2.key h) h2.two (fun _ h => h1.key h) (fun _ h => h2.meets h1 h))

/-- How often a key stands in such a list. -/
theorem Lists.count {S : St} {L : List Pair} (h : Lists S L) (hS : ∀ e ∈ S.num, isKey e.key) {q : Key} (hq : keq q q = true) : L.countP (fun p => keyEq p.1 (kval q)) = if isNilw (holds S q) then 0 else 1 := by
  have le : ∀ {M : List Pair}, M.Pairwise Off → (∀ p ∈ M, ∃ q, p.1 = kval q) → M.countP (fun p => keyEq p.1 (kval q)) ≤ 1 := by
    intro M
    induction M with
    | nil => intro _ _; simp
    | cons x r ih =>
      intro ht hk
      rw [List.countP_cons]
      cases hx : keyEq x.1 (kval q)
      · have := ih (List.pairwise_cons.1 ht).2 (fun p hp => hk p (by simp [hp]))
        simpa using this
      · have : r.countP (fun p => keyEq p.1 (kval q)) = 0 := by
          rw [List.countP_eq_zero]
          intro y hy hyq
          obtain ⟨qx, ex⟩ := hk x (by simp)
          obtain ⟨qy, ey⟩ := hk y (by simp [hy])
          have h3 := keyA.trans x.1 (kval q) y.1 ⟨qx, ex⟩ ⟨q, rfl⟩ ⟨qy, ey⟩ hx (keyA.symm y.1 (kval q) ⟨qy, ey⟩ ⟨q, rfl⟩ hyq)
          rw [((List.pairwise_cons.1 ht).1 y hy).1] at h3
          cases h3
        rw [this]
        simp
  cases hn : isNilw (holds S q)
  · obtain ⟨p, hp, he⟩ := h.full q hq hn
    have h1 := le h.two (fun p hp => h.key hp)
    have h2 : 0 < L.countP (fun p => keyEq p.1 (kval q)) := List.countP_pos_iff.2 ⟨p, hp, he⟩
    simp only [Bool.false_eq_true, if_false]
    omega
  · rw [if_pos rfl, List.countP_eq_zero]
    intro p hp hpq
    obtain ⟨q', e1, _, e3, e4⟩ := h.sound p hp
    rw [e1, keyEq_kv] at hpq
    rw [e3, holds_same hS hpq, hn] at e4
    cases e4

/-! ### the maps' entries -/
def strKey (v : Value) : Value := .iface 78 v
def entP (f : Value → Value) (es : List MapEntry) : List Pair := es.filterMap fun e => live (f e.key) e.val
theorem mem_entP {f : Value → Value} {es : List MapEntry} {p : Pair} : p ∈ entP f es ↔ ∃ e ∈ es, p = (f e.key, e.val) ∧ isNilw e.val = false := by
  unfold entP
  rw [List.mem_filterMap]
  constructor
  · rintro ⟨e, he, hp⟩
    obtain ⟨h1, h2⟩ := live_some hp
    exact ⟨e, he, h1, h2⟩
  · rintro ⟨e, he, rfl, h2⟩
    exact ⟨e, he, live_yes h2⟩
def pairs (S : St) : List Pair := arrP S.arr 0 ++ (entP strKey S.str ++ entP (fun k => k) S.num)

/-- The map of numbers holds none of the array part's keys, and no string. -/
def Clean (S : St) : Prop := ∀ q, cont keyEq (kval q) S.num ≠ none → ∃ b, q = .num b ∧ Fl.akey b = none

theorem arrP_sound {S : St} (ha : S.arr.length ≤ 65536) {p : Pair} (hp : p ∈ arrP S.arr 0) : ∃ i : Nat, i < 65536 ∧ p.1 = kval (.num (FloatKind.f64.nearest ((i : Int) + 1))) ∧ p.2 = holds S (.num (FloatKind.f64.nearest ((i : Int) + 1))) ∧ isNilw p.2 = false := by
  obtain ⟨i, _, h2, rfl, h4⟩ := mem_arrP.1 hp
  exact ⟨i, by omega, rfl, by rw [holds_arr (arr_akey (by omega))], h4⟩
theorem arrP_full {S : St} {b i : Nat} (hb : Fl.akey b = some (i + 1)) (ha : S.arr.length ≤ 65536) (hn : isNilw (holds S (.num b)) = false) : ∃ p ∈ arrP S.arr 0, keyEq p.1 (kval (.num b)) = true := by
  rw [holds_arr hb] at hn
  have hi : i < S.arr.length := by
    rcases Nat.lt_or_ge i S.arr.length with h | h
    · exact h
    · rw [List.getElem?_eq_none h] at hn
      rw [Option.getD_none, nilw_nil] at hn
      cases hn
  exact ⟨_, mem_arrP.2 ⟨i, Nat.zero_le _, hi, rfl, hn⟩, by
    exact (keyEq_kv (.num (FloatKind.f64.nearest ((i : Int) + 1))) (.num b)).trans (akey_keq (arr_akey (i := i) (by omega)) hb)⟩
theorem arrP_two {a : List Value} (ha : a.length ≤ 65536) (lo : Nat) : (arrP a lo).Pairwise Off := by
  unfold arrP
  rw [List.pairwise_filterMap]
  refine List.Pairwise.imp_of_mem ?_ (List.pairwise_lt_range' (s := lo) (n := a.length - lo))
  intro i j hi hj hij p hp p' hp'
  rw [List.mem_range'_1] at hi hj
  obtain ⟨rfl, _⟩ := live_some hp
  obtain ⟨rfl, _⟩ := live_some hp'
  refine off_kv (p := .num (FloatKind.f64.nearest ((i : Int) + 1))) (q := .num (FloatKind.f64.nearest ((j : Int) + 1))) rfl rfl ?_
  cases h : keq (.num (FloatKind.f64.nearest ((i : Int) + 1))) (.num (FloatKind.f64.nearest ((j : Int) + 1)))
  · rfl
  · have h1 := keq_akey h (arr_akey (i := j) (by omega))
    rw [arr_akey (by omega)] at h1
    have := Option.some.inj h1
    omega

theorem entP_two {eqv : Value → Value → Bool} {D : Value → Prop} {es : List MapEntry} (F : Fine eqv D es) (A : Apart eqv D) {f : Value → Value} (hf : ∀ e ∈ es, ∀ e' ∈ es, eqv e.key e'.key = false → eqv e'.key e.key = false → Off (f e.key, e.val) (f e'.key, e'.val)) : (entP f es).Pairwise Off := by
  unfold entP
  rw [List.pairwise_filterMap]
  refine List.Pairwise.imp_of_mem ?_ F.two
  intro e e' he he' h p hp p' hp'
  obtain ⟨rfl, _⟩ := live_some hp
  obtain ⟨rfl, _⟩ := live_some hp'
  refine hf e he e' he' h ?_
  cases h2 : eqv e'.key e.key
  · rfl
  · rw [A.symm _ _ (F.keys e' he').1 (F.keys e he).1 h2] at h
    cases h

theorem pairs_lists {S : St} (ha : S.arr.length ≤ 65536) (fs : Fine seq IsStr S.str) (fn : Fine keyEq isKey S.num) (hc : Clean S) : Lists S (pairs S) := by
  have ns : ∀ e ∈ S.num, ∃ b, e.key = kval (.num b) ∧ Fl.akey b = none ∧ keq (.num b) (.num b) = true ∧ holds S (.num b) = e.val := fun e he => by
    obtain ⟨⟨q, hq⟩, hs⟩ := fn.keys e he
    have hm := cont_mem keyA fn he
    rw [hq] at hm
    obtain ⟨b, rfl, hb⟩ := hc q (by rw [hm]; simp)
    rw [hq, keyEq_kv] at hs
    exact ⟨b, hq, hb, hs, by rw [holds_num hb, hm]; rfl⟩
  have ss : ∀ e ∈ S.str, ∃ s, e.key = .string s ∧ holds S (.str s) = e.val := fun e he => by
    obtain ⟨⟨s, hs⟩, _⟩ := fs.keys e he
    have hm := cont_mem sapart fs he
    rw [hs] at hm
    exact ⟨s, hs, by show (cont seq (.string s) S.str).getD nilw = _; rw [hm]; rfl⟩
  refine ⟨fun p hp => ?_, fun q hq hn => ?_, ?_⟩
  · rcases List.mem_append.1 hp with h | h
    · obtain ⟨i, h1, h2, h3, h4⟩ := arrP_sound ha h
      have hs := arr_self (i := i) h1
      generalize FloatKind.f64.nearest ((i : Int) + 1) = b at h2 h3 hs
      exact ⟨.num b, h2, hs, h3, h4⟩
    · rcases List.mem_append.1 h with h | h
      · obtain ⟨e, he, rfl, h2⟩ := mem_entP.1 h
        obtain ⟨s, h3, h4⟩ := ss e he
        exact ⟨.str s, by rw [h3]; rfl, (ba_beq s s).2 rfl, h4.symm, h2⟩
      · obtain ⟨e, he, rfl, h2⟩ := mem_entP.1 h
        obtain ⟨b, h3, _, h5, h6⟩ := ns e he
        exact ⟨.num b, h3, h5, h6.symm, h2⟩
  · cases q with
    | str s =>
      have hn' : isNilw ((cont seq (.string s) S.str).getD nilw) = false := hn
      cases hcs : cont seq (.string s) S.str with
      | none => rw [hcs, Option.getD_none, nilw_nil] at hn'; cases hn'
      | some v =>
        rw [hcs, Option.getD_some] at hn'
        obtain ⟨e, he, rfl, hk⟩ := cont_ex hcs
        obtain ⟨s', h3, _⟩ := ss e he
        rw [h3] at hk
        refine ⟨(strKey e.key, e.val), List.mem_append.2 (.inr (List.mem_append.2 (.inl (mem_entP.2 ⟨e, he, rfl, hn'⟩)))), ?_⟩
        rw [show strKey e.key = kval (.str s') by rw [h3]; rfl, keyEq_kv]
        exact keq_symm (show keq (.str s) (.str s') = true from hk)
    | num b =>
      cases hb : Fl.akey b with
      | some k =>
        obtain ⟨i, rfl⟩ : ∃ i, k = i + 1 := ⟨k - 1, by have := Fl.akey_some hb; omega⟩
        obtain ⟨p, h1, h2⟩ := arrP_full hb ha hn
        exact ⟨p, List.mem_append.2 (.inl h1), h2⟩
      | none =>
        rw [holds_num hb] at hn
        cases hcs : cont keyEq (kval (.num b)) S.num with
        | none => rw [hcs, Option.getD_none, nilw_nil] at hn; cases hn
        | some v =>
          rw [hcs, Option.getD_some] at hn
          obtain ⟨e, he, rfl, hk⟩ := cont_ex hcs
          exact ⟨(e.key, e.val), List.mem_append.2 (.inr (List.mem_append.2 (.inr (mem_entP.2 ⟨e, he, rfl, hn⟩)))), keyA.symm _ _ ⟨_, rfl⟩ (fn.keys e he).1 hk⟩
  · rw [pairs, List.pairwise_append, List.pairwise_append]
    refine ⟨arrP_two ha 0, ⟨entP_two fs sapart (fun e he e' he' h _ => ?_), entP_two fn keyA (fun e he e' he' h h' => ⟨h, h'⟩), fun p hp p' hp' => ?_⟩, fun p hp p' hp' => ?_⟩
    · obtain ⟨s, h3, _⟩ := ss e he
      obtain ⟨s', h3', _⟩ := ss e' he'
      rw [h3, h3'] at h
      exact off_kv (p := .str s) (q := .str s') (by rw [h3]; rfl) (by rw [h3']; rfl) h
    · obtain ⟨e, he, rfl, _⟩ := mem_entP.1 hp
      obtain ⟨e', he', rfl, _⟩ := mem_entP.1 hp'
      obtain ⟨s, h3, _⟩ := ss e he
      obtain ⟨b, h3', _⟩ := ns e' he'
      exact off_kv (p := .str s) (q := .num b) (by rw [h3]; rfl) h3' rfl
    · obtain ⟨i, h1, h2, _⟩ := arrP_sound ha hp
      rcases List.mem_append.1 hp' with h | h
      · obtain ⟨e', he', rfl, _⟩ := mem_entP.1 h
        obtain ⟨s, h3, _⟩ := ss e' he'
        exact off_kv (p := .num (FloatKind.f64.nearest ((i : Int) + 1))) (q := .str s) h2 (by rw [h3]; rfl) rfl
      · obtain ⟨e', he', rfl, _⟩ := mem_entP.1 h
        obtain ⟨b, h3', h4', _⟩ := ns e' he'
        refine off_kv (p := .num (FloatKind.f64.nearest ((i : Int) + 1))) (q := .num b) h2 h3' ?_
        cases h : keq (.num (FloatKind.f64.nearest ((i : Int) + 1))) (.num b)
        · rfl
        · rw [keq_akey (keq_symm h) (arr_akey h1)] at h4'
          cases h4'

/-! ### the keys in the order in which they were laid -/
def HKey : Key → Prop
  | .str _ => True
  | .num b => ∃ z : Int, b = FloatKind.f64.nearest z ∧ z.natAbs ≤ 9007199254740992 ∧ ¬ (1 ≤ z ∧ z < 67108864)
theorem HKey.akey {b : Nat} (h : HKey (.num b)) : Fl.akey b = none := by
  obtain ⟨z, rfl, hz, hn⟩ := h
  rw [Fl.akey_int hz, if_neg hn]
structure OrdK (ks : List Value) (ix : List MapEntry) : Prop where
  kv : ∀ k ∈ ks, ∃ q, k = kval q ∧ keq q q = true ∧ HKey q
  two : ks.Pairwise fun a b => keyEq a b = false ∧ keyEq b a = false
  pos : ∀ (i : Nat) (k : Value), ks[i]? = some k → cont keyEq k ix = some (.int .i64 (i : Int))
  back : ∀ q, cont keyEq (kval q) ix ≠ none → ∃ k ∈ ks, keyEq k (kval q) = true
structure Ordr (S : St) (ks : List Value) (ix : List MapEntry) : Prop extends OrdK ks ix where
  str : ∀ s, cont seq (.string s) S.str ≠ none → ∃ k ∈ ks, keyEq k (kval (.str s)) = true
  num : ∀ q, cont keyEq (kval q) S.num ≠ none → (∃ b, q = .num b ∧ Fl.akey b = none) ∧ ∃ k ∈ ks, keyEq k (kval q) = true
theorem Ordr.clean {S : St} {ks : List Value} {ix : List MapEntry} (h : Ordr S ks ix) : Clean S := fun q hq => (h.num q hq).1
theorem ordr_nil : Ordr ⟨[], [], []⟩ [] [] := ⟨⟨fun k h => by simp at h, List.Pairwise.nil, fun i k h => by simp at h, fun q h => absurd rfl h⟩, fun s h => absurd rfl h, fun q h => absurd rfl h⟩

/-- What RawGetH answers. -/
def valH (S : St) : Value → Value
  | .iface _ (.string s) => (cont seq (.string s) S.str).getD nilw
  | k => (cont keyEq k S.num).getD nilw
theorem valH_holds {S : St} {q : Key} (h : HKey q) : valH S (kval q) = holds S q := by
  cases q with
  | str s => rfl
  | num b => rw [holds_num h.akey]; rfl
def keyP (S : St) (ks : List Value) : List Pair := ks.filterMap fun k => live k (valH S k)
theorem mem_keyP {S : St} {ks : List Value} {p : Pair} : p ∈ keyP S ks ↔ ∃ k ∈ ks, p = (k, valH S k) ∧ isNilw (valH S k) = false := by
  unfold keyP
  rw [List.mem_filterMap]
  constructor
  · rintro ⟨e, he, hp⟩
    obtain ⟨h1, h2⟩ := live_some hp
    exact ⟨e, he, h1, h2⟩
  · rintro ⟨e, he, rfl, h2⟩
    exact ⟨e, he, live_yes h2⟩
def chain (S : St) (ks : List Value) : List Pair := arrP S.arr 0 ++ keyP S ks

theorem chain_lists {S : St} {ks : List Value} {ix : List MapEntry} (ha : S.arr.length ≤ 65536) (fn : Fine keyEq isKey S.num) (h : Ordr S ks ix) : Lists S (chain S ks) := by
  have hS : ∀ e ∈ S.num, isKey e.key := fun e he => (fn.keys e he).1
  refine ⟨fun p hp => ?_, fun q hq hn => ?_, ?_⟩
  · rcases List.mem_append.1 hp with h1 | h1
    · obtain ⟨i, h1, h2, h3, h4⟩ := arrP_sound ha h1
      have hs := arr_self (i := i) h1
      generalize FloatKind.f64.nearest ((i : Int) + 1) = b at h2 h3 hs
      exact ⟨.num b, h2, hs, h3, h4⟩
    · obtain ⟨k, hk, rfl, hn⟩ := mem_keyP.1 h1
      obtain ⟨q, rfl, h2, h3⟩ := h.kv k hk
      exact ⟨q, rfl, h2, valH_holds h3, hn⟩
  · have key : (∃ k ∈ ks, keyEq k (kval q) = true) → ∃ p ∈ chain S ks, keyEq p.1 (kval q) = true := by
      rintro ⟨k, hk, he⟩
      obtain ⟨q', rfl, h2, h3⟩ := h.kv k hk
      refine ⟨(kval q', valH S (kval q')), List.mem_append.2 (.inr (mem_keyP.2 ⟨_, hk, rfl, ?_⟩)), he⟩
      rw [keyEq_kv] at he
      rw [valH_holds h3, holds_same hS he]
      exact hn
    cases q with
    | str s =>
      refine key (h.str s fun hc => ?_)
      have hn' : isNilw ((cont seq (.string s) S.str).getD nilw) = false := hn
      rw [hc, Option.getD_none, nilw_nil] at hn'
      cases hn'
    | num b =>
      cases hb : Fl.akey b with
      | some k =>
        obtain ⟨i, rfl⟩ : ∃ i, k = i + 1 := ⟨k - 1, by have := Fl.akey_some hb; omega⟩
        obtain ⟨p, h1, h2⟩ := arrP_full hb ha hn
        exact ⟨p, List.mem_append.2 (.inl h1), h2⟩
      | none =>
        refine key (h.num _ fun hc => ?_).2
        rw [holds_num hb, hc, Option.getD_none, nilw_nil] at hn
        cases hn
  · rw [chain, List.pairwise_append]
    refine ⟨arrP_two ha 0, ?_, fun p hp p' hp' => ?_⟩
    · unfold keyP
      rw [List.pairwise_filterMap]
      refine h.two.imp ?_
      intro k k' hkk p hp p' hp'
      obtain ⟨rfl, _⟩ := live_some hp
      obtain ⟨rfl, _⟩ := live_some hp'
      exact hkk
    · obtain ⟨i, h1, h2, _⟩ := arrP_sound ha hp
      obtain ⟨k, hk, rfl, hn⟩ := mem_keyP.1 hp'
      obtain ⟨q, rfl, h3, h4⟩ := h.kv k hk
      refine off_kv (p := .num (FloatKind.f64.nearest ((i : Int) + 1))) (q := q) h2 rfl ?_
      cases q with
      | str s => rfl
      | num b =>
        cases h5 : keq (.num (FloatKind.f64.nearest ((i : Int) + 1))) (.num b)
        · rfl
        · have := h4.akey
          rw [keq_akey (keq_symm h5) (arr_akey h1)] at this
          cases this

/-! ### stores keep the order -/
theorem Ordr.arr {S : St} {ks : List Value} {ix : List MapEntry} (h : Ordr S ks ix) (a : List Value) : Ordr { S with arr := a } ks ix := ⟨h.toOrdK, h.str, h.num⟩
/-- One key more, or as it was. -/
theorem OrdK.kept {ks ks' : List Value} {ix ix' : List MapEntry} (h : OrdK ks ix) (fi : ∀ e ∈ ix, isKey e.key) {q : Key} (hq : keq q q = true) (hk : HKey q) (hK : Kept (kval q) ks ix ks' ix') :
    OrdK ks' ix' ∧ (∀ k ∈ ks, k ∈ ks') ∧ ∃ k ∈ ks', keyEq k (kval q) = true := by
  rcases hK with ⟨rfl, rfl, p, hp⟩ | ⟨rfl, hs, n, rfl⟩
  · exact ⟨h, fun _ h => h, h.back q (by unfold cont; rw [hp]; simp)⟩
  · have hno : ∀ k ∈ ks, keyEq k (kval q) = false := fun k hkm => by
      cases he : keyEq k (kval q)
      · rfl
      · exfalso
        obtain ⟨i, hi'⟩ := List.getElem?_of_mem hkm
        have h1 := h.pos i k hi'
        obtain ⟨q', rfl, _⟩ := h.kv k hkm
        rw [cont_same keyA ⟨_, rfl⟩ ⟨_, rfl⟩ he fi] at h1
        unfold cont at h1
        rw [hs] at h1
        cases h1
    have hno2 : ∀ k ∈ ks, keyEq (kval q) k = false := fun k hkm => by
      obtain ⟨q', rfl, _⟩ := h.kv k hkm
      rw [keyEq_kv, keq_comm, ← keyEq_kv]
      exact hno _ hkm
    have hp : ∀ k', isKey k' → cont keyEq k' (ix ++ [⟨kval q, .int .i64 ks.length, n⟩]) = if keyEq k' (kval q) then some (.int .i64 ks.length) else cont keyEq k' ix := cont_push keyA ⟨q, rfl⟩ fi (spot_none.1 hs)
    refine ⟨⟨fun k hkm => ?_, ?_, fun i k hik => ?_, fun q' hq' => ?_⟩, fun k hkm => List.mem_append.2 (.inl hkm), kval q, by simp, by rw [keyEq_kv]; exact hq⟩
    · rcases List.mem_append.1 hkm with h1 | h1
      · exact h.kv k h1
      · rw [List.mem_singleton] at h1
        exact ⟨q, h1, hq, hk⟩
    · rw [List.pairwise_append]
      refine ⟨h.two, List.pairwise_singleton _ _, fun a ha b hb => ?_⟩
      rw [List.mem_singleton] at hb
      subst hb
      exact ⟨hno a ha, hno2 a ha⟩
    · by_cases hl : i < ks.length
      · rw [List.getElem?_append_left hl] at hik
        have hkm := List.mem_of_getElem? hik
        obtain ⟨q', e', _⟩ := h.kv k hkm
        rw [hp k ⟨q', e'⟩, hno k hkm]
        simpa using h.pos i k hik
      · rw [List.getElem?_append_right (by omega)] at hik
        have hi0 : i = ks.length := by
          rcases Nat.lt_or_ge (i - ks.length) 1 with h1 | h1
          · omega
          · rw [List.getElem?_eq_none (by simpa using h1)] at hik
            cases hik
        subst hi0
        simp at hik
        subst hik
        rw [hp _ ⟨q, rfl⟩, keyEq_kv, hq]
        rfl
    · rw [hp _ ⟨q', rfl⟩] at hq'
      cases he : keyEq (kval q') (kval q)
      · rw [he] at hq'
        obtain ⟨k, hkm, hke⟩ := h.back q' (by simpa using hq')
        exact ⟨k, List.mem_append.2 (.inl hkm), hke⟩
      · exact ⟨kval q, by simp, keyA.symm _ _ ⟨_, rfl⟩ ⟨_, rfl⟩ he⟩

theorem Ordr.put_str {S : St} {ks ks' : List Value} {ix ix' : List MapEntry} (h : Ordr S ks ix) (fi : ∀ e ∈ ix, isKey e.key) {s : ByteArray} {v : Value} {isNil : Bool} {str' : List MapEntry} (hp : Put seq IsStr (.string s) v isNil S.str str') (h1 : isNil = false → Kept (kval (.str s)) ks ix ks' ix') (h2 : isNil = true → ks' = ks ∧ ix' = ix) : Ordr { S with str := str' } ks' ix' := by
  cases isNil with
  | true =>
    obtain ⟨rfl, rfl⟩ := h2 rfl
    refine ⟨h.toOrdK, fun s' hs' => ?_, h.num⟩
    rw [hp _ ⟨s', rfl⟩] at hs'
    cases he : seq (.string s') (.string s)
    · rw [he] at hs'
      exact h.str s' (by simpa using hs')
    · rw [he] at hs'
      simp at hs'
  | false =>
    obtain ⟨hk, hsub, k0, hk0, he0⟩ := h.toOrdK.kept fi (q := .str s) ((ba_beq s s).2 rfl) trivial (h1 rfl)
    refine ⟨hk, fun s' hs' => ?_, fun q hq => ?_⟩
    · rw [hp _ ⟨s', rfl⟩] at hs'
      cases he : seq (.string s') (.string s)
      · rw [he] at hs'
        obtain ⟨k, hkm, hke⟩ := h.str s' (by simpa using hs')
        exact ⟨k, hsub k hkm, hke⟩
      · have : s' = s := (ba_beq s' s).1 he
        rw [this]
        exact ⟨k0, hk0, he0⟩
    · obtain ⟨h3, k, hkm, hke⟩ := h.num q hq
      exact ⟨h3, k, hsub k hkm, hke⟩
theorem Ordr.put_num {S : St} {ks ks' : List Value} {ix ix' : List MapEntry} (h : Ordr S ks ix) (fi : ∀ e ∈ ix, isKey e.key) {b : Nat} {v : Value} {isNil : Bool} {num' : List MapEntry} (hb : keq (.num b) (.num b) = true) (hk : HKey (.num b)) (hp : Put keyEq isKey (kval (.num b)) v isNil S.num num') (h1 : isNil = false → Kept (kval (.num b)) ks ix ks' ix') (h2 : isNil = true → ks' = ks ∧ ix' = ix) : Ordr { S with num := num' } ks' ix' := by
  cases isNil with
  | true =>
    obtain ⟨rfl, rfl⟩ := h2 rfl
    refine ⟨h.toOrdK, h.str, fun q hq => ?_⟩
    have hq2 := hp _ ⟨q, rfl⟩
    cases he : keyEq (kval q) (kval (.num b))
    · rw [he] at hq2
      exact h.num q (by rw [← show cont keyEq (kval q) num' = cont keyEq (kval q) S.num by simpa using hq2]; exact hq)
    · rw [he] at hq2
      exact absurd (by simpa using hq2) hq
  | false =>
    obtain ⟨ho, hsub, k0, hk0, he0⟩ := h.toOrdK.kept fi hb hk (h1 rfl)
    refine ⟨ho, fun s' hs' => ?_, fun q hq => ?_⟩
    · obtain ⟨k, hkm, hke⟩ := h.str s' hs'
      exact ⟨k, hsub k hkm, hke⟩
    · have hq2 := hp _ ⟨q, rfl⟩
      cases he : keyEq (kval q) (kval (.num b))
      · rw [he] at hq2
        obtain ⟨h3, k, hkm, hke⟩ := h.num q (by rw [← show cont keyEq (kval q) num' = cont keyEq (kval q) S.num by simpa using hq2]; exact hq)
        exact ⟨h3, k, hsub k hkm, hke⟩
      · obtain ⟨qk, ek, _⟩ := ho.kv k0 hk0
        refine ⟨?_, k0, hk0, keyA.trans k0 (kval (.num b)) (kval q) ⟨qk, ek⟩ ⟨_, rfl⟩ ⟨_, rfl⟩ he0 (keyA.symm _ _ ⟨_, rfl⟩ ⟨_, rfl⟩ he)⟩
        rw [keyEq_kv] at he
        cases q with
        | str s => cases he
        | num c =>
          refine ⟨c, rfl, ?_⟩
          cases hc : Fl.akey c with
          | none => rfl
          | some i =>
            have := hk.akey
            rw [keq_akey (keq_symm he) hc] at this
            cases this

/-- What a store under a key leaves, the keys' order with it. -/
def SetKeyO (t : Tbs) (mt : Value) (S : St) (ks : List Value) (ix : List MapEntry) (k : Key) (v : Value) (w : World) (e : Ending) (w' : World) : Prop :=
  e = .returned (.tuple #[]) ∧ ∃ t' S' ks' ix', t'.T = t.T ∧ Upd (Fp t) w w' ∧ (∀ c, Fp t' c → Fp t c ∨ w.heap.size ≤ c) ∧ Tab w' t' mt S' ks' ix' ∧ (∀ q, holds S' q = if keq q k then v else holds S q) ∧ S'.arr.length ≤ max S.arr.length 65536 ∧ ks'.length ≤ ks.length + 1 ∧ (Ordr S ks ix → Ordr S' ks' ix')
theorem SetArr.keyO {t : Tbs} {mt : Value} {S : St} {ks : List Value} {ix : List MapEntry} {i b : Nat} {v : Value} {w w' : World} {e : Ending} (h : SetArr t mt S ks ix i v w e w') (hb : Fl.akey b = some (i + 1)) (hi : i < 65536) : SetKeyO t mt S ks ix (.num b) v w e w' := by
  obtain ⟨he, t', hT, hu, hf, ht⟩ := h
  exact ⟨he, t', _, ks, ix, hT, hu, hf, ht, fun q => look_arr _ _ _ v hb q, by show (setPad nilw S.arr i v).length ≤ _; rw [setPad_length]; omega, by omega, fun h => h.arr _⟩
theorem SetNum.keyO {t : Tbs} {mt : Value} {S : St} {ks : List Value} {ix : List MapEntry} {b : Nat} {v : Value} {isNil : Bool} {w w' : World} {e : Ending} (h : SetNum t mt S ks ix b v isNil w e w') (hv : Val v isNil) (hb : HKey (.num b)) (hbb : keq (.num b) (.num b) = true) (fi : ∀ e ∈ ix, isKey e.key) : SetKeyO t mt S ks ix (.num b) v w e w' := by
  obtain ⟨he, t', num', ks', ix', hT, hu, hf, ht, hp, k1, k2, hl⟩ := h
  refine ⟨he, t', _, ks', ix', hT, hu, hf, ht, fun q => look_num _ _ _ (isNil := isNil) (fun hn => ?_) hb.akey hp q, by show S.arr.length ≤ _; omega, hl, fun h => h.put_num fi hbb hb hp k1 k2⟩
  rcases hv with ⟨_, h⟩ | ⟨h, _⟩
  · exact h
  · rw [h] at hn; cases hn
theorem SetStr.keyO {t : Tbs} {mt : Value} {S : St} {ks : List Value} {ix : List MapEntry} {s : ByteArray} {v : Value} {isNil : Bool} {w w' : World} {e : Ending} (h : SetStr t mt S ks ix s v isNil w e w') (hv : Val v isNil) (fi : ∀ e ∈ ix, isKey e.key) : SetKeyO t mt S ks ix (.str s) v w e w' := by
  obtain ⟨he, t', str', ks', ix', hT, hu, hf, ht, hp, k1, k2, hl⟩ := h
  refine ⟨he, t', _, ks', ix', hT, hu, hf, ht, fun q => look_str _ _ _ (isNil := isNil) (fun hn => ?_) hp q, by show S.arr.length ≤ _; omega, hl, fun h => h.put_str fi hp k1 k2⟩
  rcases hv with ⟨_, h⟩ | ⟨h, _⟩
  · exact h
  · rw [h] at hn; cases hn

/-- RawSetInt at an exact key that does not pad the array part beyond 65536. -/
theorem set_into (t : Tbs) (mt : Value) (S : St) (ks : List Value) (ix : List MapEntry) (key : Int) (v : Value) (isNil : Bool) (w : World) (hv : Val v isNil) (hx : key.natAbs ≤ 9007199254740992) (hk : ¬ (65536 < key ∧ key < 67108864)) (hkl : ks.length ≤ 1048576) (hl : S.arr.length ≤ 65536) (h : Tab w t mt S ks ix) :
    Calls Tryz.prog 85 #[.pointer (some ⟨t.T, 0, none⟩), .int .i64 key, v] w (SetKeyO t mt S ks ix (.num (FloatKind.f64.nearest key)) v w) := by
  by_cases hin : 1 ≤ key ∧ key < 67108864
  · obtain ⟨i, rfl⟩ : ∃ i : Nat, key = (i : Int) + 1 := ⟨(key - 1).toNat, by omega⟩
    have hb : Fl.akey (FloatKind.f64.nearest ((i : Int) + 1)) = some (i + 1) := by
      rw [Fl.akey_int hx, if_pos hin]
      congr 1
    exact (set_int_arr t mt S ks ix i v isNil w hv (by omega) hl h).mono (fun _ _ hp => hp.keyO hb (by omega))
  · exact (set_int_far t mt S ks ix key v isNil w hv (by omega) hkl (self_int key hx) h).mono (fun _ _ hp => hp.keyO hv ⟨key, rfl, hx, hin⟩ (by rw [← keyEq_kv]; exact self_int key hx) (fun e he => (h.fi.keys e he).1))
set_option maxHeartbeats 400000 in
theorem l_set_into (L : Option Addr) (t : Tbs) (mt : Value) (S : St) (ks : List Value) (ix : List MapEntry) (key : Int) (v : Value) (isNil : Bool) (w : World) (hv : Val v isNil) (hx : key.natAbs ≤ 9007199254740992) (hk : ¬ (65536 < key ∧ key < 67108864)) (hkl : ks.length ≤ 1048576) (hl : S.arr.length ≤ 65536) (h : Tab w t mt S ks ix) :
    Calls Tryz.prog 72 #[.pointer L, .pointer (some ⟨t.T, 0, none⟩), .int .i64 key, v] w (SetKeyO t mt S ks ix (.num (FloatKind.f64.nearest key)) v w) := by
  have C := Lib.hid (set_into t mt S ks ix key v isNil w hv hx hk hkl hl h)
  clear hv hx hk hkl hl h
  go_enter Tryz.func72, Tryz.ntmps72
  go_wp2_with fail
  refine C.out.mono ?_
  rintro e w' ⟨rfl, hp⟩
  have HP := Lib.hid hp
  clear hp C
  go_wp2
  go_end0
  exact ⟨rfl, HP.out⟩
end Go.Proofs.YtlmadbgpllokfaaGreatFmt
