/- FnForEachVisitsLiveKeysOnce: which key is the last of its kind: plain; zzLastInt: walked. -/
import Derived.Test.YtlmadbgpllokfaaGreatFmtFem
import Derived.Test.YtlmadbgpllokfaaGreatFmtFrc
namespace Go.Proofs.YtlmadbgpllokfaaGreatFmt
open Go.RowKit Go.Mapy Go.Tbl
set_option maxRecDepth 100000

/-- As the program compares two whole numbers. -/
def ieqk (q k : Int) : Bool := decide (k = q)

set_option maxHeartbeats 800000 in
theorem last_ints (a : Option Addr) (K c n : Nat) (key : Nat → Int) (p : Int) (w : World) (hn : n ≤ K) (hK : K ≤ 4096) (hc : Cells w a K fun j => .int .i64 (key j)) :
    Calls Tryz.prog 52 #[.slice a K c, .int .i64 n, .int .i64 p] w fun e w' => e = .returned (.int .i64 (lk ieqk key p n)) ∧ w = w' := by
  have HC := Lib.hid hc
  clear hc
  go_enter Tryz.func52, Tryz.ntmps52
  go_wp2
  go_loop [7, 8] (fun jv iv => ∃ m : Nat, m ≤ n ∧ iv = .int .i64 m ∧ jv = .int .i64 (lk ieqk key p m)) (fun _ iv => n - (intOf iv).toNat)
  case atStart => exact ⟨0, Nat.zero_le _, rfl, rfl⟩
  case round =>
    obtain ⟨m, hm, rfl, rfl⟩ := hrel
    by_cases hlt : m < n
    · obtain ⟨b, off, rfl, hcell⟩ := HC.out.one (j := m) (by omega)
      have i1 : (0 : Int) ≤ (m : Int) := by omega
      have i2 : (m : Int) < (K : Int) := by omega
      by_cases hk : key m = p
      · have LI := Lib.hid (lk_yes (eqk := ieqk) (ks := key) (q := p) (n := m) (decide_eq_true hk))
        go_wp2
        go_round
        case rel => exact ⟨m + 1, by omega, by go_num, by rw [LI.out]⟩
        case measure => simp [intOf]; omega
      · have LI := Lib.hid (lk_no (eqk := ieqk) (ks := key) (q := p) (n := m) (decide_eq_false hk))
        go_wp2
        go_round
        case rel => exact ⟨m + 1, by omega, by go_num, by rw [LI.out]⟩
        case measure => simp [intOf]; omega
    · obtain rfl : m = n := by omega
      go_wp2
      go_ret
      exact ⟨rfl, rfl⟩

/-! ### the last of its kind -/
/-- Whether the i-th of n keys is the last of its kind. -/
def isl {K : Type} (eqk : K → K → Bool) (ks : Nat → K) (n i : Nat) : Bool := decide (lk eqk ks (ks i) n = (i : Int))
theorem isl_iff {K : Type} {eqk : K → K → Bool} {ks : Nat → K} {n i : Nat} : isl eqk ks n i = true ↔ Last.last eqk ks (ks i) n = some i := by
  unfold isl lk
  rw [decide_eq_true_iff]
  cases Last.last eqk ks (ks i) n with
  | none => exact ⟨fun h => by have h : (-1 : Int) = (i : Int) := h; omega, fun h => by cases h⟩
  | some j => exact ⟨fun h => by have h : (j : Int) = (i : Int) := h; rw [show j = i by omega], fun h => by cases h; rfl⟩
theorem last_above {K : Type} {eqk : K → K → Bool} {ks : Nat → K} {q : K} : ∀ {n j : Nat}, Last.last eqk ks q n = some j → ∀ i, j < i → i < n → eqk q (ks i) = false
  | 0, j, h, i, h1, h2 => by omega
  | n + 1, j, h, i, h1, h2 => by
    unfold Last.last at h
    by_cases e : eqk q (ks n) = true
    · rw [if_pos e] at h
      cases h
      omega
    · rw [if_neg e] at h
      by_cases hi : i = n
      · rw [hi]
        simpa using e
      · exact last_above h i h1 (by omega)

/-- What the keys' own comparison must be to the table's. -/
structure Own {K : Type} (eqk : K → K → Bool) (key : K → Key) (ks : Nat → K) (n : Nat) : Prop where
  refl : ∀ a, eqk a a = true
  eq : ∀ a b, eqk a b = true → a = b
  inj : ∀ i j, i < n → j < n → keq (key (ks i)) (key (ks j)) = true → eqk (ks i) (ks j) = true
/-- The one key that is met. -/
theorem Own.hit {K : Type} {eqk : K → K → Bool} {key : K → Key} {ks : Nat → K} {n m : Nat} {q : Key} (O : Own eqk key ks n) (hm : m < n) (hq : keq q (key (ks m)) = true) (ha : ∀ i, m < i → i < n → keq q (key (ks i)) = false) :
    isl eqk ks n m = true ∧ ∀ i, i < n → i ≠ m → isl eqk ks n i = true → keq q (key (ks i)) = false := by
  refine ⟨isl_iff.2 (Last.last_some _ hm (O.refl _) (fun i h1 h2 => ?_)), fun i hi hne hl => ?_⟩
  · cases he : eqk (ks m) (ks i)
    · rfl
    · rw [O.eq _ _ he] at hq
      rw [ha i h1 h2] at hq
      cases hq
  · have hl := isl_iff.1 hl
    by_cases hlt : m < i
    · exact ha i hlt hi
    · cases hk : keq q (key (ks i))
      · rfl
      · have h1 := O.inj i m hi hm (keq_trans (keq_symm hk) hq)
        rw [last_above hl m (by omega) hm] at h1
        cases h1
/-- The last of its kind is the last that equals it. -/
theorem Own.last {K : Type} {eqk : K → K → Bool} {key : K → Key} {ks : Nat → K} {n i : Nat} (O : Own eqk key ks n) (hi : i < n) (hl : isl eqk ks n i = true) : ∀ j, i < j → j < n → keq (key (ks i)) (key (ks j)) = false := fun j h1 h2 => by
  cases hk : keq (key (ks i)) (key (ks j))
  · rfl
  · have h3 := O.inj i j hi h2 hk
    rw [last_above (isl_iff.1 hl) j h1 h2] at h3
    cases h3
def ikey (z : Int) : Key := .num (FloatKind.f64.nearest z)
theorem own_int {ik : Nat → Int} {n : Nat} (h : Keys ik n) : Own ieqk ikey ik n where
  refl := fun _ => decide_eq_true rfl
  eq := fun _ _ h => (of_decide_eq_true h).symm
  inj := fun i j hi hj hk => decide_eq_true ((Fl.order_int (h i hi).1 (h j hj).1).1 (eq_of_beq (show (FloatKind.f64.format.order (FloatKind.f64.nearest (ik i)) (FloatKind.f64.nearest (ik j)) == some .eq) = true from hk))).symm
theorem own_str (sk : Nat → ByteArray) (n : Nat) : Own seqk .str sk n where
  refl := fun _ => by unfold seqk; simp
  eq := fun a b h => by
    rw [← keq_str] at h
    exact (ba_beq a b).1 h
  inj := fun i j _ _ hk => by
    rw [← keq_str]
    exact hk
theorem ikey_self (z : Int) : keq (ikey z) (ikey z) = true := by
  have := Fl.near_self z
  unfold keq ikey
  exact beq_iff_eq.2 this

/-! ### what is met -/
def NoK (n : Nat) (l : Nat → Bool) (key : Nat → Key) (q : Key) : Prop := ∀ i, i < n → l i = true → keq q (key i) = false
def HitK (n : Nat) (l : Nat → Bool) (key : Nat → Key) (del : Nat → Bool) (val : Nat → Nat) (q : Key) (b m : Nat) : Prop := m < n ∧ l m = true ∧ keq q (key m) = true ∧ del m = false ∧ val m = b ∧ ∀ i, i < n → i ≠ m → l i = true → keq q (key i) = false

theorem vv_num {val : Nat → Nat} {del : Nat → Bool} {m b : Nat} (h : vv val del m = numv b) : del m = false ∧ val m = b := by
  unfold vv at h
  cases hd : del m
  · rw [hd] at h
    have h : numv (val m) = numv b := h
    unfold numv at h
    injection h with _ h
    injection h with _ h
    exact ⟨rfl, h⟩
  · rw [hd] at h
    have h : nilw = numv b := h
    have := numv_nil b
    rw [← h, nilw_nil] at this
    cases this
theorem hits {S : St} {ni ns : Nat} {ik : Nat → Int} {iv : Nat → Nat} {id : Nat → Bool} {sk : Nat → ByteArray} {sv : Nat → Nat} {sd : Nat → Bool} (hr : RanK (mkey ni ik sk) (mval ni iv id sv sd) (ni + ns) S) (hK : Keys ik ni) {q : Key} {b : Nat} (hb : holds S q = numv b) :
    (∃ m, HitK ni (isl ieqk ik ni) (fun i => ikey (ik i)) id iv q b m) ∨ (NoK ni (isl ieqk ik ni) (fun i => ikey (ik i)) q ∧ ∃ m, HitK ns (isl seqk sk ns) (fun j => .str (sk j)) sd sv q b m) := by
  rw [hr q, Last.run_last] at hb
  cases hl : Last.last keq (mkey ni ik sk) q (ni + ns) with
  | none =>
    rw [hl] at hb
    have hb : nilw = numv b := hb
    have := numv_nil b
    rw [← hb, nilw_nil] at this
    cases this
  | some m =>
    rw [hl] at hb
    have hb : mval ni iv id sv sd m = numv b := hb
    have hm := Last.last_lt _ hl
    have hq := Last.last_eq _ hl
    have ha := last_above hl
    by_cases h : m < ni
    · left
      have e : ∀ i, i < ni → mkey ni ik sk i = ikey (ik i) := fun i hi => by unfold mkey; rw [if_pos hi]; rfl
      rw [e m h] at hq
      have hb : vv iv id m = numv b := by rw [← hb]; unfold mval; rw [if_pos h]
      obtain ⟨h1, h2⟩ := (own_int hK).hit h hq (fun i h1 h2 => by rw [← e i h2]; exact ha i h1 (by omega))
      exact ⟨m, h, h1, hq, (vv_num hb).1, (vv_num hb).2, h2⟩
    · right
      have e : ∀ i, mkey ni ik sk (ni + i) = .str (sk i) := fun i => by unfold mkey; rw [if_neg (by omega), Nat.add_sub_cancel_left]
      obtain ⟨j, rfl⟩ : ∃ j, m = ni + j := ⟨m - ni, by omega⟩
      rw [e j] at hq
      have hb : vv sv sd j = numv b := by rw [← hb]; unfold mval; rw [if_neg h, Nat.add_sub_cancel_left]
      obtain ⟨h1, h2⟩ := (own_str sk ns).hit (m := j) (by omega) hq (fun i h1 h2 => by rw [← e i]; exact ha (ni + i) (by omega) (by omega))
      refine ⟨fun i _ _ => ?_, j, by omega, h1, hq, (vv_num hb).1, (vv_num hb).2, h2⟩
      cases q with
      | num x => cases hq
      | str s => rfl
theorem want_int {S : St} {ni ns : Nat} {ik : Nat → Int} {iv : Nat → Nat} {id : Nat → Bool} {sk : Nat → ByteArray} {sv : Nat → Nat} {sd : Nat → Bool} (hr : RanK (mkey ni ik sk) (mval ni iv id sv sd) (ni + ns) S) (hK : Keys ik ni) {i : Nat} (hi : i < ni) (hl : isl ieqk ik ni i = true) : holds S (ikey (ik i)) = vv iv id i := by
  have e : ∀ i, i < ni → mkey ni ik sk i = ikey (ik i) := fun i hi => by unfold mkey; rw [if_pos hi]; rfl
  have hx : Last.last keq (mkey ni ik sk) (ikey (ik i)) (ni + ns) = some i := Last.last_some _ (by omega) (by rw [e i hi]; exact ikey_self _) (fun j h1 h2 => by
    by_cases hj : j < ni
    · rw [e j hj]
      exact (own_int hK).last hi hl j h1 hj
    · unfold mkey
      rw [if_neg hj]
      rfl)
  rw [hr, Last.run_last, hx]
  show mval ni iv id sv sd i = _
  unfold mval
  rw [if_pos hi]
theorem want_str {S : St} {ni ns : Nat} {ik : Nat → Int} {iv : Nat → Nat} {id : Nat → Bool} {sk : Nat → ByteArray} {sv : Nat → Nat} {sd : Nat → Bool} (hr : RanK (mkey ni ik sk) (mval ni iv id sv sd) (ni + ns) S) {i : Nat} (hi : i < ns) (hl : isl seqk sk ns i = true) : holds S (.str (sk i)) = vv sv sd i := by
  have e : ∀ i, mkey ni ik sk (ni + i) = .str (sk i) := fun i => by unfold mkey; rw [if_neg (by omega), Nat.add_sub_cancel_left]
  have hx : Last.last keq (mkey ni ik sk) (.str (sk i)) (ni + ns) = some (ni + i) := Last.last_some _ (by omega) (by rw [e i]; exact (ba_beq _ _).2 rfl) (fun j h1 h2 => by
    obtain ⟨k, rfl⟩ : ∃ k, j = ni + k := ⟨j - ni, by omega⟩
    rw [e k]
    exact (own_str sk ns).last hi hl k (by omega) (by omega))
  rw [hr, Last.run_last, hx]
  show mval ni iv id sv sd (ni + i) = _
  unfold mval
  rw [if_neg (by omega), Nat.add_sub_cancel_left]

/-! ### how often each was met -/
def cnt (l : Nat → Bool) (key : Nat → Key) (vis : List Pair) (i : Nat) : Nat := if l i then vis.countP (fun p => keyEq p.1 (kval (key i))) else 0
theorem cnt_nil (l : Nat → Bool) (key : Nat → Key) (i : Nat) : cnt l key [] i = 0 := by
  unfold cnt
  cases l i <;> rfl
theorem cnt_app {l : Nat → Bool} {key : Nat → Key} {vis : List Pair} {q : Key} {v : Value} {i : Nat} : cnt l key (vis ++ [(kval q, v)]) i = cnt l key vis i + if l i && keq q (key i) then 1 else 0 := by
  unfold cnt
  cases l i
  · rfl
  · show (vis ++ [(kval q, v)]).countP _ = vis.countP _ + _
    rw [List.countP_append, List.countP_singleton, keyEq_kv, Bool.true_and]
theorem HitK.cnt {n : Nat} {l : Nat → Bool} {key : Nat → Key} {del : Nat → Bool} {val : Nat → Nat} {q : Key} {b m : Nat} (h : HitK n l key del val q b m) {vis : List Pair} {v : Value} {i : Nat} (hi : i < n) : cnt l key (vis ++ [(kval q, v)]) i = if i = m then cnt l key vis i + 1 else cnt l key vis i := by
  obtain ⟨_, h2, h3, _, _, h6⟩ := h
  rw [cnt_app]
  by_cases e : i = m
  · rw [if_pos e, e, h2, h3]
    rfl
  · rw [if_neg e]
    cases hl : l i
    · rfl
    · rw [h6 i hi e hl]
      rfl
theorem NoK.cnt {n : Nat} {l : Nat → Bool} {key : Nat → Key} {q : Key} (h : NoK n l key q) {vis : List Pair} {v : Value} {i : Nat} (hi : i < n) : cnt l key (vis ++ [(kval q, v)]) i = cnt l key vis i := by
  rw [cnt_app]
  cases hl : l i
  · rfl
  · rw [h i hi hl]
    rfl
theorem HitK.none_str {n ns : Nat} {l l2 : Nat → Bool} {ik : Nat → Int} {del : Nat → Bool} {val : Nat → Nat} {sk : Nat → ByteArray} {q : Key} {b m : Nat} (h : HitK n l (fun i => ikey (ik i)) del val q b m) : NoK ns l2 (fun j => .str (sk j)) q := fun j _ _ => by
  cases q with
  | num x => rfl
  | str s => cases h.2.2.1
theorem cnt_end {S : St} {L : List Pair} (h : Lists S L) (hS : ∀ e ∈ S.num, isKey e.key) {l : Nat → Bool} {key : Nat → Key} {val : Nat → Nat} {del : Nat → Bool} {i : Nat} (hs : keq (key i) (key i) = true) (hw : l i = true → holds S (key i) = vv val del i) : cnt l key L i = if l i && !del i then 1 else 0 := by
  unfold cnt
  cases hl : l i
  · rfl
  · show L.countP _ = _
    rw [h.count hS hs, hw hl]
    unfold vv
    cases hd : del i
    · show (if isNilw (numv (val i)) = true then 0 else 1) = _
      rw [numv_nil]
      rfl
    · show (if isNilw nilw = true then 0 else 1) = _
      rw [nilw_nil]
      rfl
end Go.Proofs.YtlmadbgpllokfaaGreatFmt
