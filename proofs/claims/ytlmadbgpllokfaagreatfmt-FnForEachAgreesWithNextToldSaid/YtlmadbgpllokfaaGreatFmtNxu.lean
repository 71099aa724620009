/- Next along the chain of pairs; what the mixed script's table holds: plain and walked. -/
import Derived.Test.YtlmadbgpllokfaaGreatFmtNxt
import Derived.Test.YtlmadbgpllokfaaGreatFmtClf
namespace Go.Proofs.YtlmadbgpllokfaaGreatFmt
open Go.RowKit Go.Mapy Go.Tbl
set_option maxRecDepth 100000

theorem arrP_pos {a : List Value} : ∀ (n lo p : Nat), a.length - lo = n → p < (arrP a lo).length → ∃ i, i < a.length ∧ (arrP a lo)[p]? = some (arrKey i, (a[i]?).getD nilw) ∧ (arrP a lo).drop (p + 1) = arrP a (i + 1)
  | 0, lo, p, hn, hp => by
    rw [arrP_end (by omega)] at hp
    simp at hp
  | n + 1, lo, p, hn, hp => by
    have hlo : lo < a.length := by omega
    have hn' : a.length - (lo + 1) = n := by omega
    cases hv : isNilw ((a[lo]?).getD nilw)
    · rw [arrP_some hlo hv] at hp ⊢
      cases p with
      | zero => exact ⟨lo, hlo, rfl, rfl⟩
      | succ p =>
        obtain ⟨i, h1, h2, h3⟩ := arrP_pos n (lo + 1) p hn' (by simpa using hp)
        exact ⟨i, h1, by simpa using h2, by simpa using h3⟩
    · rw [arrP_none hlo hv] at hp ⊢
      exact arrP_pos n (lo + 1) p hn' hp
theorem keyP_pos {S : St} : ∀ {ks : List Value} {p : Nat}, p < (keyP S ks).length → ∃ j k, ks[j]? = some k ∧ (keyP S ks)[p]? = some (k, valH S k) ∧ (keyP S ks).drop (p + 1) = keyP S (ks.drop (j + 1))
  | [], p, hp => by simp [keyP] at hp
  | k :: r, p, hp => by
    cases hv : isNilw (valH S k)
    · have e : keyP S (k :: r) = (k, valH S k) :: keyP S r := keyP_live (ks := k :: r) (i := 0) rfl hv
      rw [e] at hp ⊢
      cases p with
      | zero => exact ⟨0, k, rfl, rfl, rfl⟩
      | succ p =>
        obtain ⟨j, k', h1, h2, h3⟩ := keyP_pos (ks := r) (p := p) (by simpa using hp)
        exact ⟨j + 1, k', by simpa using h1, by simpa using h2, by simpa using h3⟩
    · have e : keyP S (k :: r) = keyP S r := keyP_dead (ks := k :: r) (i := 0) rfl hv
      rw [e] at hp ⊢
      obtain ⟨j, k', h1, h2, h3⟩ := keyP_pos (ks := r) (p := p) hp
      exact ⟨j + 1, k', by simpa using h1, h2, by simpa using h3⟩

/-- The key that is handed to Next for the p-th pair. -/
def keyOf (C : List Pair) : Nat → Value
  | 0 => nilw
  | p + 1 => ((C[p]?).getD (nilw, nilw)).1
theorem next_at (t : Tbs) (mt : Value) (S : St) (ks : List Value) (ix : List MapEntry) (w : World) (h : Tab w t mt S ks ix) (ho : Ordr S ks ix) (hl : S.arr.length ≤ 65536) (hkl : ks.length ≤ 1048576) (hnv : ∀ q, NV (holds S q)) (p : Nat) (hp : p ≤ (chain S ks).length) :
    Calls Tryz.prog 74 #[.pointer (some ⟨t.T, 0, none⟩), keyOf (chain S ks) p] w (Nx ((chain S ks).drop p) w) := by
  cases p with
  | zero => exact next_nil t mt S ks ix w h ho hkl hnv hl
  | succ p =>
    by_cases hpa : p < (arrP S.arr 0).length
    · obtain ⟨i, h1, h2, h3⟩ := arrP_pos _ 0 p rfl hpa
      have e1 : (chain S ks)[p]? = some (arrKey i, (S.arr[i]?).getD nilw) := by
        unfold chain
        rw [List.getElem?_append_left hpa]
        exact h2
      have e2 : (chain S ks).drop (p + 1) = arrP S.arr (i + 1) ++ keyP S ks := by
        unfold chain
        rw [List.drop_append_of_le_length (by omega), h3]
      have e3 : keyOf (chain S ks) (p + 1) = arrKey i := by
        show ((chain S ks)[p]?.getD (nilw, nilw)).1 = _
        rw [e1]
        rfl
      rw [e2, e3]
      exact next_arr t mt S ks ix w h ho hkl hnv hl i h1
    · have hlen : (chain S ks).length = (arrP S.arr 0).length + (keyP S ks).length := by unfold chain; rw [List.length_append]
      obtain ⟨j, k, h1, h2, h3⟩ := keyP_pos (S := S) (ks := ks) (p := p - (arrP S.arr 0).length) (by omega)
      obtain ⟨q, rfl, _, _⟩ := ho.kv k (List.mem_of_getElem? h1)
      have e1 : (chain S ks)[p]? = some (kval q, valH S (kval q)) := by
        unfold chain
        rw [List.getElem?_append_right (by omega)]
        exact h2
      have e2 : (chain S ks).drop (p + 1) = keyP S (ks.drop (j + 1)) := by
        unfold chain
        rw [List.drop_append, List.drop_eq_nil_of_le (by omega), List.nil_append, show p + 1 - (arrP S.arr 0).length = p - (arrP S.arr 0).length + 1 by omega, h3]
      have e3 : keyOf (chain S ks) (p + 1) = kval q := by
        show ((chain S ks)[p]?.getD (nilw, nilw)).1 = _
        rw [e1]
        rfl
      rw [e2, e3]
      exact next_key t mt S ks ix w h ho hkl hnv j q h1
set_option maxHeartbeats 800000 in
theorem l_next (L : Option Addr) (T : Nat) (k : Value) (M : List Pair) (w : World) (C : Calls Tryz.prog 74 #[.pointer (some ⟨T, 0, none⟩), k] w (Nx M w)) :
    Calls Tryz.prog 57 #[.pointer L, .pointer (some ⟨T, 0, none⟩), k] w (Nx M w) := by
  have CC := Lib.hid C
  clear C
  go_enter Tryz.func57, Tryz.ntmps57
  go_wp2_with fail
  refine CC.out.mono ?_
  rintro e w' ⟨rfl, rfl⟩
  clear CC
  go_wp2
  go_ret2
  exact ⟨rfl, rfl⟩

/-! ### what the mixed script's table holds -/
theorem mixed_good {S : St} {ni ns : Nat} {ik : Nat → Int} {iv : Nat → Nat} {id : Nat → Bool} {sk : Nat → ByteArray} {sv : Nat → Nat} {sd : Nat → Bool} (hr : RanK (mkey ni ik sk) (mval ni iv id sv sd) (ni + ns) S) (s1 : Stored iv id ni) (s2 : Stored sv sd ns) (q : Key) :
    holds S q = nilw ∨ ∃ b, holds S q = numv b ∧ (FloatKind.f64.format.order b b == some .eq) = true := by
  rw [hr q, Last.run_last]
  cases hl : Last.last keq (mkey ni ik sk) q (ni + ns) with
  | none => exact .inl rfl
  | some j =>
    have hj := Last.last_lt _ hl
    show mval ni iv id sv sd j = nilw ∨ ∃ b, mval ni iv id sv sd j = numv b ∧ _
    unfold mval
    by_cases h : j < ni
    · rw [if_pos h]
      unfold vv
      cases hd : id j
      · exact .inr ⟨_, rfl, s1 j h hd⟩
      · exact .inl rfl
    · rw [if_neg h]
      unfold vv
      cases hd : sd (j - ni)
      · exact .inr ⟨_, rfl, s2 (j - ni) (by omega) hd⟩
      · exact .inl rfl
theorem good_nv {v : Value} (h : v = nilw ∨ ∃ b, v = numv b ∧ (FloatKind.f64.format.order b b == some .eq) = true) : NV v := by
  rcases h with h | ⟨b, h, _⟩
  · exact .inl h
  · exact .inr ⟨b, h⟩
theorem arr_nv {S : St} (hl : S.arr.length ≤ 65536) (hnv : ∀ q, NV (holds S q)) : ∀ (i : Nat) (v : Value), S.arr[i]? = some v → NV v := fun i v hv => by
  have hi : i < S.arr.length := (List.getElem?_eq_some_iff.1 hv).1
  have h := hnv (.num (FloatKind.f64.nearest ((i : Int) + 1)))
  rw [holds_arr (arr_akey (i := i) (by omega)), hv] at h
  exact h
theorem str_nv {S : St} (fs : Fine seq IsStr S.str) (hnv : ∀ q, NV (holds S q)) : ∀ e ∈ S.str, NV e.val := fun e he => by
  obtain ⟨⟨s, hs⟩, _⟩ := fs.keys e he
  have hm := cont_mem sapart fs he
  rw [hs] at hm
  have h := hnv (.str s)
  rw [show holds S (.str s) = (cont seq (.string s) S.str).getD nilw from rfl, hm] at h
  exact h
theorem num_nv {S : St} (fn : Fine keyEq isKey S.num) (hc : Clean S) (hnv : ∀ q, NV (holds S q)) : ∀ e ∈ S.num, NV e.val := fun e he => by
  obtain ⟨⟨q, hq⟩, _⟩ := fn.keys e he
  have hm := cont_mem keyA fn he
  rw [hq] at hm
  obtain ⟨b, rfl, hb⟩ := hc q (by rw [hm]; simp)
  have h := hnv (.num b)
  rw [holds_num hb, hm] at h
  exact h
theorem pairs_le {S : St} {ks : List Value} {ix : List MapEntry} (ha : S.arr.length ≤ 65536) (fs : Fine seq IsStr S.str) (fn : Fine keyEq isKey S.num) (ho : Ordr S ks ix) : (pairs S).length ≤ 65536 + ks.length := by
  rw [(pairs_lists ha fs fn ho.clean).length (chain_lists ha fn ho)]
  unfold chain arrP keyP
  rw [List.length_append]
  have h1 := List.length_filterMap_le (arrAt S.arr) (List.range' 0 (S.arr.length - 0))
  have h2 := List.length_filterMap_le (fun k => live k (valH S k)) ks
  rw [List.length_range'] at h1
  omega

/-! ### the invariant of the callback -/
structure InvN (wb : World) (t : Tbs) (N Bk Bv : Nat) (vis : List Pair) (w : World) : Prop where
  ex : ∃ sk sv, Row1 w Bk sk (vis.map (·.1)) ∧ Row1 w Bv sv (vis.map (·.2)) ∧ (∀ c, sk.ownBlock = some c → sv.ownBlock ≠ some c) ∧ Upd (fun _ => False) wb w ∧ (∀ c, sk.ownBlock = some c → wb.heap.size ≤ c ∧ ¬ Fp t c) ∧ (∀ c, sv.ownBlock = some c → wb.heap.size ≤ c ∧ ¬ Fp t c) ∧ N ≤ w.heap.size
/-- What does not turn. -/
structure FixN (wb : World) (t : Tbs) (N Bk Bv : Nat) : Prop where
  k : wb.heap.size ≤ Bk ∧ ¬ Fp t Bk
  v : wb.heap.size ≤ Bv ∧ ¬ Fp t Bv
  ne : Bk ≠ Bv
  fp : ∀ c, Fp t c → c < N
  lo : wb.heap.size ≤ N

theorem blk_not_iter {w : World} {b : Nat} {l : List Value} {t : TypeId} (h : Blk w b l t) : ¬ Its w b := by
  rintro ⟨a, b', s, d, hx⟩
  unfold Blk at h
  rw [h] at hx
  cases hx
theorem own_not_iter {w : World} {base size n : Nat} {e : TypeId} {v : Value} {xs : List Value} (h : w.ownsRow base e size v n xs) {c : Nat} (hc : v.ownBlock = some c) : ¬ Its w c := by
  obtain ⟨cur, hg⟩ := owns_lt h hc
  rintro ⟨a, b', s, d, hx⟩
  rw [hg] at hx
  cases hx

theorem InvN.keep {wb : World} {t : Tbs} {N Bk Bv : Nat} {vis : List Pair} {w w' : World} (h : InvN wb t N Bk Bv vis w) (F : FixN wb t N Bk Bv) (hu : Upd (fun c => N ≤ c ∧ Its w c) w w') : InvN wb t N Bk Bv vis w' := by
  obtain ⟨sk, sv, r1, r2, d, u, o1, o2, n⟩ := h.ex
  refine ⟨sk, sv, r1.upd hu (fun h => blk_not_iter r1.var h.2) (fun c hc h => own_not_iter r1.row hc h.2), r2.upd hu (fun h => blk_not_iter r2.var h.2) (fun c hc h => own_not_iter r2.row hc h.2), d, ?_, o1, o2, Nat.le_trans n hu.size⟩
  exact ⟨hu.os.trans u.os, hu.tape.trans u.tape, hu.output.trans u.output, Nat.le_trans u.size hu.size, fun i hi hs => (hu.block i (Nat.lt_of_lt_of_le hi u.size) (fun h => by have := F.lo; have := h.1; omega)).trans (u.block i hi hs)⟩

theorem fen_cb {wb : World} {t : Tbs} {N Bk Bv : Nat} {vis : List Pair} {w : World} (F : FixN wb t N Bk Bv) (h : InvN wb t N Bk Bv vis w) {p : Pair} {q : Key} {b : Nat} (hp : p.1 = kval q) (hv : p.2 = numv b) (hl : vis.length ≤ 1048576) :
    Calls Tryz.prog 56 #[p.1, p.2, .pointer (some ⟨Bk, 0, none⟩), .pointer (some ⟨Bv, 0, none⟩)] w fun e w' => e = .returned (.tuple #[]) ∧ InvN wb t N Bk Bv (vis ++ [p]) w' ∧ Upd (Cbs t w) w w' := by
  obtain ⟨sk, sv, r1, r2, d, u, o1, o2, n⟩ := h.ex
  obtain ⟨p1, p2⟩ := p
  have hp : p1 = kval q := hp
  have hv : p2 = numv b := hv
  obtain ⟨tk, xk, hk⟩ : ∃ tk xk, p1 = .iface tk xk := by
    rw [hp]
    cases q
    · exact ⟨_, _, rfl⟩
    · exact ⟨_, _, rfl⟩
  have hv : p2 = .iface 53 (.float .f64 b) := hv
  subst hk
  subst hv
  refine (clo_next Bk Bv sk sv (vis.map (·.1)) (vis.map (·.2)) tk xk _ _ w r1 r2 F.ne d (by rw [List.length_map]; exact hl) (by rw [List.length_map]; exact hl)).mono ?_
  rintro e w' ⟨he, sk', sv', r1', r2', d', u', n1, n2⟩
  have hlow : ∀ c, wb.heap.size ≤ c ∧ ¬ Fp t c ∨ w.heap.size ≤ c → wb.heap.size ≤ c ∧ ¬ Fp t c := fun c hc => by
    rcases hc with hc | hc
    · exact hc
    · refine ⟨Nat.le_trans u.size hc, fun hf => ?_⟩
      have := F.fp c hf
      omega
  have hset : ∀ c, (c = Bk ∨ c = Bv ∨ sk.ownBlock = some c ∨ sv.ownBlock = some c) → (wb.heap.size ≤ c ∧ ¬ Fp t c) ∧ ¬ Its w c := fun c hc => by
    rcases hc with rfl | rfl | hc | hc
    · exact ⟨F.k, blk_not_iter r1.var⟩
    · exact ⟨F.v, blk_not_iter r2.var⟩
    · exact ⟨o1 c hc, own_not_iter r1.row hc⟩
    · exact ⟨o2 c hc, own_not_iter r2.row hc⟩
  refine ⟨he, ⟨sk', sv', by rw [List.map_append]; exact r1', by rw [List.map_append]; exact r2', d', u.trans_new u' (fun c hc => (hset c hc).1.1), fun c hc => hlow c ?_, fun c hc => hlow c ?_, Nat.le_trans n u'.size⟩, u'.mono (fun c _ hc => ⟨(hset c hc).1.2, fun a b' s d' hx => (hset c hc).2 ⟨a, b', s, d', hx⟩⟩)⟩
  · rcases n1 c hc with h | h
    · exact .inl (o1 c h)
    · exact .inr h
  · rcases n2 c hc with h | h
    · exact .inl (o2 c h)
    · exact .inr h
/-- The callback's variables as they are laid. -/
theorem fen_start {wb w9 : World} {t : Tbs} {mt : Value} {S : St} {ks : List Value} {ix : List MapEntry} (hu : Upd (fun _ => False) wb w9) (_hf : ∀ c, Fp t c → wb.heap.size ≤ c) (hT : Tab w9 t mt S ks ix) (n : Nat) (hn : n ≤ 1048576) {wF : World}
    (hw : wF = (((w9.alloc (.cells (tab n fun _ => Value.nilIface).toArray 49)).alloc (.cells #[Value.slice (some ⟨w9.heap.size, 0, none⟩) 0 n] 84)).alloc (.cells (tab n fun _ => Value.nilIface).toArray 49)).alloc (.cells #[Value.slice (some ⟨w9.heap.size + 1 + 1, 0, none⟩) 0 n] 84)) :
    FixN wb t wF.heap.size (w9.heap.size + 1) (w9.heap.size + 1 + 1 + 1) ∧ InvN wb t wF.heap.size (w9.heap.size + 1) (w9.heap.size + 1 + 1 + 1) [] wF ∧ Tab wF t mt S ks ix := by
  have hs := hu.size
  have hu9 : Upd (fun _ => False) w9 wF := by rw [hw]; exact ((((Upd.refl _ _).alloc _).alloc _).alloc _).alloc _
  have hz : wF.heap.size = w9.heap.size + 1 + 1 + 1 + 1 := by rw [hw]; simp
  have hlt : ∀ c, Fp t c → c < w9.heap.size := fun c hc => hT.lt hc
  have b1 : Blk wF (w9.heap.size) (tab n fun _ => Value.nilIface) 49 := by rw [hw]; exact (((Blk.new _ _ _).alloc _).alloc _).alloc _
  have b2 : Blk wF (w9.heap.size + 1) [Value.slice (some ⟨w9.heap.size, 0, none⟩) 0 n] 84 := by rw [hw]; exact ((Blk.new_at (by simp) _ _).alloc _).alloc _
  have b3 : Blk wF (w9.heap.size + 1 + 1) (tab n fun _ => Value.nilIface) 49 := by rw [hw]; exact (Blk.new_at (by simp) _ _).alloc _
  have b4 : Blk wF (w9.heap.size + 1 + 1 + 1) [Value.slice (some ⟨w9.heap.size + 1 + 1, 0, none⟩) 0 n] 84 := by rw [hw]; exact Blk.new_at (by simp) _ _
  have own : ∀ g, Blk wF g (tab n fun _ => Value.nilIface) 49 → wF.ownsRow 0 49 1 (.slice (some ⟨g, 0, none⟩) 0 n) 0 [] := fun g hb => ⟨rfl, .inr ⟨g, n, _, rfl, Nat.zero_le _, hb, Nat.zero_le _, by unfold maxLen; omega, by simp [tab_length], rfl⟩⟩
  refine ⟨⟨⟨by omega, fun h => by have := hlt _ h; omega⟩, ⟨by omega, fun h => by have := hlt _ h; omega⟩, by omega, fun c hc => by have := hlt c hc; omega, by omega⟩, ⟨_, _, ⟨b2, own _ b1⟩, ⟨b4, own _ b3⟩, fun c hc h => ?_, hu.trans hu9, fun c hc => ?_, fun c hc => ?_, Nat.le_refl _⟩, hT.upd hu9 (fun _ _ h => h)⟩
  · have e1 : some w9.heap.size = some c := hc
    have e2 : some (w9.heap.size + 1 + 1) = some c := h
    have e1 := Option.some.inj e1
    have e2 := Option.some.inj e2
    omega
  · have e1 : some w9.heap.size = some c := hc
    have e1 := Option.some.inj e1
    exact ⟨by omega, fun h => by have := hlt _ h; omega⟩
  · have e1 : some (w9.heap.size + 1 + 1) = some c := hc
    have e1 := Option.some.inj e1
    exact ⟨by omega, fun h => by have := hlt _ h; omega⟩

/-- One value more in a row of the call's own. -/
theorem row_grow {w w4 : World} {o : Obj} {sl v' : Value} {x : Value} {xs : List Value} {n B : Nat} (h : w.ownsRow 0 49 1 sl xs.length xs) (hg : (w.alloc o).grownBy w4 sl.ownBlock) (hn : n = xs.length + 1) (hown : w4.ownsRow 0 49 1 v' n (xs ++ [x])) (hloc : v'.ownBlock = sl.ownBlock ∨ v'.ownBlock = some (w.alloc o).heap.size)
    (hb : ∀ c, sl.ownBlock = some c → B ≤ c) (hBw : B ≤ w.heap.size) :
    w4.ownsRow 0 49 1 v' (xs ++ [x]).length (xs ++ [x]) ∧ Upd (fun c => sl.ownBlock = some c) w w4 ∧ (∀ c, v'.ownBlock = some c → sl.ownBlock = some c ∨ w.heap.size ≤ c) ∧ (∀ c, v'.ownBlock = some c → B ≤ c) ∧ (∀ c, sl.ownBlock = some c → c < w.heap.size) := by
  have key : ∀ c, v'.ownBlock = some c → sl.ownBlock = some c ∨ w.heap.size ≤ c := fun c hc => by
    rcases hloc with h1 | h1
    · exact .inl (by rw [← h1]; exact hc)
    · right
      rw [h1] at hc
      have := Option.some.inj hc
      rw [World.size_alloc] at this
      omega
  refine ⟨by rw [List.length_append, List.length_singleton, ← hn]; exact hown, ((Upd.refl _ w).alloc o).trans (upd_grown hg), key, fun c hc => ?_, fun c hc => ?_⟩
  · rcases key c hc with h1 | h1
    · exact hb c h1
    · omega
  · obtain ⟨cur, hg2⟩ := owns_lt h hc
    exact (Array.getElem?_eq_some_iff.1 hg2).1
theorem vis_at {vis : List Pair} {i : Nat} (hi : i < vis.length) : ∃ p, vis[i]? = some p ∧ p ∈ vis ∧ ((vis.map (·.1))[i]?).getD nilw = p.1 ∧ ((vis.map (·.2))[i]?).getD nilw = p.2 := by
  refine ⟨vis[i], List.getElem?_eq_getElem hi, List.getElem_mem hi, ?_, ?_⟩
  · rw [List.getElem?_map, List.getElem?_eq_getElem hi]; rfl
  · rw [List.getElem?_map, List.getElem?_eq_getElem hi]; rfl
theorem two_at {vis : List Pair} (h : vis.Pairwise Off) {i j : Nat} (hij : j < i) {p q : Pair} (hp : vis[i]? = some p) (hq : vis[j]? = some q) : keyEq p.1 q.1 = false := by
  have hi := (List.getElem?_eq_some_iff.1 hp).1
  have hj := (List.getElem?_eq_some_iff.1 hq).1
  have h1 := List.pairwise_iff_getElem.1 h j i hj hi hij
  rw [← (List.getElem?_eq_some_iff.1 hp).2, ← (List.getElem?_eq_some_iff.1 hq).2]
  exact h1.2
/-- A row of the call's own, as a slice's elements. -/
theorem row_shape {w : World} {sl : Value} {xs : List Value} (h : w.ownsRow 0 49 1 sl xs.length xs) : ∃ a c, sl = .slice a xs.length c ∧ Cells w a xs.length fun j => (xs[j]?).getD nilw := by
  rcases h.2 with ⟨h1, h2⟩ | ⟨g, cap, cur, h1, h2, h3⟩
  · refine ⟨none, 0, ?_, fun j hj => absurd hj (by omega)⟩
    rw [h1, h2]
  · subst h1
    refine ⟨_, cap, rfl, fun j hj => ⟨_, rfl, ?_⟩⟩
    obtain ⟨⟨u, cu⟩, _, hx⟩ := owns_cell h hj
    have hxj : xs[j]? = some u := by rw [← hx]; exact cu
    show w.cell? ((⟨g, 0, none⟩ : Addr).add j) = some ((xs[j]?).getD nilw)
    rw [hxj, Addr.add_mid, Nat.zero_add]
    exact cu

/-! ### the pairs that Next has given -/
theorem pair_at {S : St} {L : List Pair} (h : Lists S L) (gd : ∀ q, holds S q = nilw ∨ ∃ b, holds S q = numv b ∧ (FloatKind.f64.format.order b b == some .eq) = true) {p : Pair} (hp : p ∈ L) : ∃ q b, p = (kval q, numv b) ∧ holds S q = numv b ∧ keq (.num b) (.num b) = true := by
  obtain ⟨q, e1, _, e3, e4⟩ := h.sound p hp
  rcases gd q with hg | ⟨b, hb, ho⟩
  · rw [e3, hg, nilw_nil] at e4
    cases e4
  · refine ⟨q, b, ?_, hb, ho⟩
    obtain ⟨p1, p2⟩ := p
    have e1 : p1 = kval q := e1
    have e3 : p2 = holds S q := e3
    rw [e1, e3, hb]
theorem chain_at {S : St} {C : List Pair} (h : Lists S C) (gd : ∀ q, holds S q = nilw ∨ ∃ b, holds S q = numv b ∧ (FloatKind.f64.format.order b b == some .eq) = true) {p : Nat} (hp : p < C.length) : ∃ q b, C.drop p = (kval q, numv b) :: C.drop (p + 1) ∧ keyOf C (p + 1) = kval q ∧ C.take (p + 1) = C.take p ++ [(kval q, numv b)] := by
  obtain ⟨q, b, e, _⟩ := pair_at h gd (List.getElem_mem hp)
  refine ⟨q, b, ?_, ?_, ?_⟩
  · rw [List.drop_eq_getElem_cons hp, e]
  · show ((C[p]?).getD (nilw, nilw)).1 = _
    rw [List.getElem?_eq_getElem hp, e]
    rfl
  · rw [List.take_add_one, List.getElem?_eq_getElem hp, e]
    rfl
/-- Two rows of the call's own, as far as they are. -/
structure Got (w0 w : World) (v1 v2 : Value) (xs ys : List Value) : Prop where
  r1 : w.ownsRow 0 49 1 v1 xs.length xs
  r2 : w.ownsRow 0 49 1 v2 ys.length ys
  d : ∀ c, v1.ownBlock = some c → v2.ownBlock ≠ some c
  l1 : ∀ c, v1.ownBlock = some c → w0.heap.size ≤ c
  l2 : ∀ c, v2.ownBlock = some c → w0.heap.size ≤ c
  up : Upd (fun _ => False) w0 w
theorem own_tab {w : World} {g n : Nat} (hn : n ≤ 1048576) (hb : Blk w g (tab n fun _ => Value.nilIface) 49) : w.ownsRow 0 49 1 (.slice (some ⟨g, 0, none⟩) 0 n) 0 [] :=
  ⟨rfl, .inr ⟨g, n, _, rfl, Nat.zero_le _, hb, Nat.zero_le _, by unfold maxLen; omega, by simp [tab_length], rfl⟩⟩
theorem got_new (w : World) (n : Nat) (hn : n ≤ 1048576) : Got w ((w.alloc (.cells (tab n fun _ => Value.nilIface).toArray 49)).alloc (.cells (tab n fun _ => Value.nilIface).toArray 49)) (.slice (some ⟨w.heap.size, 0, none⟩) 0 n) (.slice (some ⟨w.heap.size + 1, 0, none⟩) 0 n) [] [] where
  r1 := own_tab hn ((Blk.new _ _ _).alloc _)
  r2 := own_tab hn (Blk.new_at (by simp) _ _)
  d := fun c h1 h2 => by
    have h1 : some w.heap.size = some c := h1
    have h2 : some (w.heap.size + 1) = some c := h2
    have h1 := Option.some.inj h1
    have h2 := Option.some.inj h2
    omega
  l1 := fun c h1 => by
    have h1 : some w.heap.size = some c := h1
    have h1 := Option.some.inj h1
    omega
  l2 := fun c h2 => by
    have h2 : some (w.heap.size + 1) = some c := h2
    have h2 := Option.some.inj h2
    omega
  up := ((Upd.refl _ _).alloc _).alloc _
theorem Got.one {w0 w w4 : World} {o : Obj} {v1 v2 v' x : Value} {xs ys : List Value} {n : Nat} (h : Got w0 w v1 v2 xs ys) (hg : (w.alloc o).grownBy w4 v1.ownBlock) (hn : n = xs.length + 1) (hown : w4.ownsRow 0 49 1 v' n (xs ++ [x])) (hloc : v'.ownBlock = v1.ownBlock ∨ v'.ownBlock = some (w.alloc o).heap.size) : Got w0 w4 v' v2 (xs ++ [x]) ys := by
  obtain ⟨g1, g2, g3, g4, g5⟩ := row_grow h.r1 hg hn hown hloc h.l1 h.up.size
  refine ⟨g1, owns_upd h.r2 g2 (fun c hc h1 => h.d c h1 hc), fun c hc h2 => ?_, g4, h.l2, h.up.trans_new g2 h.l1⟩
  rcases g3 c hc with h3 | h3
  · exact h.d c h3 h2
  · obtain ⟨cur, hx⟩ := owns_lt h.r2 h2
    have := (Array.getElem?_eq_some_iff.1 hx).1
    omega
theorem Got.two {w0 w w4 : World} {o : Obj} {v1 v2 v' x : Value} {xs ys : List Value} {n : Nat} (h : Got w0 w v1 v2 xs ys) (hg : (w.alloc o).grownBy w4 v2.ownBlock) (hn : n = ys.length + 1) (hown : w4.ownsRow 0 49 1 v' n (ys ++ [x])) (hloc : v'.ownBlock = v2.ownBlock ∨ v'.ownBlock = some (w.alloc o).heap.size) : Got w0 w4 v1 v' xs (ys ++ [x]) := by
  obtain ⟨g1, g2, g3, g4, g5⟩ := row_grow h.r2 hg hn hown hloc h.l2 h.up.size
  refine ⟨owns_upd h.r1 g2 (fun c hc h1 => h.d c hc h1), g1, fun c hc h2 => ?_, h.l1, g4, h.up.trans_new g2 h.l2⟩
  rcases g3 c h2 with h3 | h3
  · exact h.d c hc h3
  · obtain ⟨cur, hx⟩ := owns_lt h.r1 hc
    have := (Array.getElem?_eq_some_iff.1 hx).1
    omega
theorem Got.step {w0 w : World} {v1 v2 : Value} {C : List Pair} {p : Nat} {k v : Value} (h : Got w0 w v1 v2 ((C.take p).map (·.1) ++ [k]) ((C.take p).map (·.2) ++ [v])) (ht : C.take (p + 1) = C.take p ++ [(k, v)]) : Got w0 w v1 v2 ((C.take (p + 1)).map (·.1)) ((C.take (p + 1)).map (·.2)) := by
  rw [ht, List.map_append, List.map_append]
  exact h
theorem meets_at {S : St} {L C : List Pair} (h1 : Lists S L) (h2 : Lists S C) {i : Nat} {p : Pair} (hp : L[i]? = some p) (hall : ∀ m, m < C.length → ∀ p', C[m]? = some p' → keyEq p.1 p'.1 = false) : False := by
  obtain ⟨p', hm, hk⟩ := h1.meets h2 (List.mem_of_getElem? hp)
  obtain ⟨m, hlt, he⟩ := List.mem_iff_getElem.1 hm
  have h3 := hall m hlt p' (by rw [← he]; exact List.getElem?_eq_getElem hlt)
  obtain ⟨q, e1⟩ := h1.key (List.mem_of_getElem? hp)
  obtain ⟨q', e2⟩ := h2.key hm
  rw [e1, e2, keyEq_kv] at h3 hk
  rw [keq_symm hk] at h3
  cases h3
end Go.Proofs.YtlmadbgpllokfaaGreatFmt
