/- RawSetString at a value that is not nil: walked. -/
import Derived.Test.YtlmadbgpllokfaaGreatFmtTab
namespace Go.Proofs.YtlmadbgpllokfaaGreatFmt
open Go.RowKit Go.Mapy Go.Tbl
set_option maxRecDepth 100000

/-- What a store leaves, as the laws on look-ups ask it. -/
theorem put_of_to {eqv : Value → Value → Bool} {D : Value → Prop} (A : Apart eqv D) {k v : Value} {es es' : List MapEntry} (F : Fine eqv D es) (hk : D k) (_hr : eqv k k = true) (h : PutTo eqv k v es es') : Put eqv D k v false es es' := by
  intro k' hk'
  rcases h with ⟨hn, n, rfl⟩ | ⟨i, v0, e0, k2, n, hs, he, h2, rfl⟩
  · rw [cont_push A hk (fun e he => (F.keys e he).1) (spot_none.1 hn) k' hk']
    simp
  · obtain ⟨q, e1, hq, he1, _, hee⟩ := spot_some hs
    obtain rfl : i = q := by omega
    rw [he1] at he
    cases he
    have d0 := F.keys e0 (List.mem_of_getElem? he1)
    have hk2 : D k2 ∧ eqv k k2 = true := by
      rcases h2 with rfl | rfl
      · exact ⟨hk, _hr⟩
      · exact ⟨d0.1, hee⟩
    rw [cont_put A hk hk2.1 hk2.2 F he1 hee k' hk']
    simp
theorem fine_of_to {eqv : Value → Value → Bool} {D : Value → Prop} (A : Apart eqv D) {k v : Value} {es es' : List MapEntry} (F : Fine eqv D es) (hk : D k) (hr : eqv k k = true) (h : PutTo eqv k v es es') : Fine eqv D es' := by
  rcases h with ⟨hn, n, rfl⟩ | ⟨i, v0, e0, k2, n, hs, he, h2, rfl⟩
  · exact fine_push A F hk hr (spot_none.1 hn)
  · obtain ⟨q, e1, hq, he1, _, hee⟩ := spot_some hs
    obtain rfl : i = q := by omega
    rw [he1] at he
    cases he
    have d0 := F.keys e0 (List.mem_of_getElem? he1)
    have hk2 : D k2 ∧ eqv k k2 = true := by
      rcases h2 with rfl | rfl
      · exact ⟨hk, hr⟩
      · exact ⟨d0.1, hee⟩
    exact fine_put A hk hk2.1 hk2.2 F he1 hee

theorem seq_self (s : ByteArray) : seq (.string s) (.string s) = true := by
  show (s == s) = true
  rw [ba_beq]
theorem key_self (s : ByteArray) : keyEq (kval (.str s)) (kval (.str s)) = true := by
  show ieq 53 78 (kv 53 78 (.str s)) (kv 53 78 (.str s)) = true
  rw [ieq_kv]
  show (s == s) = true
  rw [ba_beq]

/-- The table behind a store into the map of its strings. -/
theorem Tab.put_str {w w' : World} {t : Tbs} {mt : Value} {S : St} {ks : List Value} {ix : List MapEntry} (h : Tab w t mt S ks ix) {s : ByteArray} {v : Value} {es' : Array MapEntry} {c : Nat} (hu : Upd (fun x => x = t.s) w w') (hb : Turned w w' t.s es' c) (hp : PutTo seq (.string s) v S.str es'.toList) :
    Tab w' t mt { S with str := es'.toList } ks ix where
  tb := hu.blk h.tb (fun e => h.T_ne.1 e)
  ar := owns_upd h.ar hu (fun c hc => (h.row_ne.1 c hc).1)
  nm := h.nm.upd hu (fun c hc e => h.sd.1 (by rw [hc, e]))
  sn := h.nm.stamp h.sn hu (fun c hc e => h.sd.1 (by rw [hc, e]))
  st := ⟨es', c, hb.1, rfl⟩
  ss := turned_stamp hb h.st h.ss
  ke := owns_upd h.ke hu (fun c hc => (h.row_ne.2 c hc).1)
  im := h.im.upd hu (fun c hc e => h.sd.2.1 (by rw [hc, e]))
  kn := h.kn
  an := h.an
  sd := h.sd
  ak := h.ak
  fs := fine_of_to sapart h.fs ⟨s, rfl⟩ (seq_self s) hp
  fn := h.fn
  fi := h.fi

/-- The table behind a store into the map of its keys' places, and one key more in their list. -/
theorem Tab.put_key {w w' : World} {t : Tbs} {mt : Value} {S : St} {ks : List Value} {ix : List MapEntry} (h : Tab w t mt S ks ix) {I : Nat} (hI : t.i = some I) {k : Key} {v : Value} {es' : Array MapEntry} {c : Nat} (hr : keyEq (kval k) (kval k) = true) (hu : Upd (fun x => x = I) w w') (hb : Turned w w' I es' c) (hp : PutTo keyEq (kval k) v ix es'.toList) :
    Tab w' t mt S ks es'.toList where
  tb := hu.blk h.tb (fun e => h.T_ne.2.2.1 (by rw [hI, e]))
  ar := owns_upd h.ar hu (fun c hc e => (h.row_ne.1 c hc).2.2 (by rw [hI, e]))
  nm := h.nm.upd hu (fun c hc e => h.sd.2.2 c hc (by rw [hI, e]))
  sn := h.nm.stamp h.sn hu (fun c hc e => h.sd.2.2 c hc (by rw [hI, e]))
  st := h.st.upd hu (fun c hc e => h.sd.2.1 (by rw [hI, hc, e]))
  ss := h.st.stamp h.ss hu (fun c hc e => h.sd.2.1 (by rw [hI, hc, e]))
  ke := owns_upd h.ke hu (fun c hc e => (h.row_ne.2 c hc).2.2 (by rw [hI, e]))
  im := by rw [hI]; exact ⟨es', c, hb.1, rfl⟩
  kn := h.kn
  an := h.an
  sd := h.sd
  ak := h.ak
  fs := h.fs
  fn := h.fn
  fi := fine_of_to (iapart _ _) h.fi ⟨k, rfl⟩ hr hp

/-- What a store of a key leaves of the keys' list. -/
def Kept (k : Value) (ks : List Value) (ix : List MapEntry) (ks' : List Value) (ix' : List MapEntry) : Prop :=
  (ks' = ks ∧ ix' = ix ∧ ∃ p, spot keyEq k ix 0 = some p) ∨ (ks' = ks ++ [k] ∧ spot keyEq k ix 0 = none ∧ ∃ n, ix' = ix ++ [⟨k, .int .i64 ks.length, n⟩])

theorem ne_nil (ty : TypeId) (x : Value) (h : ty ≠ 69) (w : World) : (binOp .eql 49 (.iface ty x) (.iface 69 (.int .u8 0))).run Tryz.prog w = .ok (.bool false) w :=
  run_eql_iface_types _ _ _ _ Tryz.underlying49 h w

/-- What a store of a string key leaves. -/
def SetStr (t : Tbs) (mt : Value) (S : St) (ks : List Value) (ix : List MapEntry) (s : ByteArray) (v : Value) (isNil : Bool) (w : World) (e : Ending) (w' : World) : Prop :=
  e = .returned (.tuple #[]) ∧ ∃ t' str' ks' ix', t'.T = t.T ∧ Upd (Fp t) w w' ∧ (∀ c, Fp t' c → Fp t c ∨ w.heap.size ≤ c) ∧ Tab w' t' mt { S with str := str' } ks' ix' ∧ Put seq IsStr (.string s) v isNil S.str str' ∧ (isNil = false → Kept (kval (.str s)) ks ix ks' ix') ∧ (isNil = true → ks' = ks ∧ ix' = ix) ∧ ks'.length ≤ ks.length + 1

set_option maxHeartbeats 1600000 in
/-- The key is known. -/
theorem set_known (t : Tbs) (mt : Value) (S : St) (ks : List Value) (ix : List MapEntry) (s : ByteArray) (ty : TypeId) (x : Value) (w : World) (hty : ty ≠ 69) (p : Nat × Value) (hp : spot keyEq (kval (.str s)) ix 0 = some p) (h : Tab w t mt S ks ix) :
    Calls Tryz.prog 44 #[.pointer (some ⟨t.T, 0, none⟩), .string s, .iface ty x] w (SetStr t mt S ks ix s (.iface ty x) false w) := by
  have hnn := ne_nil ty x hty
  have c3 := h.tb.at (o := 3) rfl
  have c4 := h.tb.at (o := 4) rfl
  have lt := h.tb.lt
  obtain ⟨I, hI⟩ : ∃ I, t.i = some I := by
    cases hi : t.i with
    | none =>
      have := h.im
      rw [hi] at this
      have this : ix = [] := this
      rw [this] at hp
      cases hp
    | some I => exact ⟨I, rfl⟩
  obtain ⟨g, cap, hk0⟩ : ∃ g cap, t.k = .slice (some ⟨g, 0, none⟩) ks.length cap := by
    rcases h.ke.2 with ⟨hk0, _⟩ | ⟨g, cap, cur, hk0, _⟩
    · rw [← h.kn, hI] at hk0; cases hk0
    · exact ⟨g, cap, hk0⟩
  rw [hk0] at c4
  obtain ⟨es0, c0, hms, hes⟩ := h.st
  have hsk : ∀ e ∈ es0.toList, IsStr e.key := fun e he => by rw [hes] at he; exact (h.fs.keys e he).1
  obtain ⟨w1, es1, c1, hrun, hu1, hb1, hp1⟩ := run_put (v := Value.iface ty x) w Tryz.underlying86 hms (str_run s es0.toList hsk)
  rw [hes] at hp1
  have h2 := h.put_str hu1 hb1 hp1
  have c5 := h2.tb.at (o := 5) rfl
  rw [hI] at c5
  obtain ⟨es2, c2, him, hix⟩ : ∃ e c, w1.heap[I]? = some (.map e c) ∧ e.toList = ix := by
    have := h2.im
    rw [hI] at this
    exact this
  have hl := look_some (k := kval (.str s)) w1 Tryz.underlying87 him (key_run (.str s) es2.toList (fun e he => by rw [hix] at he; exact (h.fi.keys e he).1)) (by rw [hix]; exact hp) true
  rw [show kval (.str s) = Value.iface 78 (.string s) from rfl] at hl
  have PT := Lib.hid (put_of_to sapart h.fs ⟨s, rfl⟩ (seq_self s) hp1)
  have UP := Lib.hid (hu1.mono (T := Fp t) (fun c _ e => .inr (.inr (.inr (.inl e)))))
  have H2 := Lib.hid h2
  have HP := Lib.hid hp
  clear h h2 hms hes hsk hu1 hb1 hp1 him hix hp
  go_enter Tryz.func44, Tryz.ntmps44
  go_wp2
  go_end0
  exact ⟨rfl, t, _, ks, ix, rfl, UP.out, fun c hc => .inl hc, H2.out, PT.out, fun _ => .inl ⟨rfl, rfl, _, HP.out⟩, (fun h => by cases h), by omega⟩

theorem tbl_old {w : World} {t : Tbs} {mt : Value} {S : St} {ks : List Value} {ix : List MapEntry} (h : Tab w t mt S ks ix) (hk : t.k = .slice none 0 0) : t.i = none ∧ ks = [] ∧ ix = [] := by
  have h1 := h.kn.2 hk
  refine ⟨h1, ?_, ?_⟩
  · rcases h.ke.2 with ⟨_, h2⟩ | ⟨g, cap, cur, hk0, _⟩
    · exact List.eq_nil_of_length_eq_zero h2
    · rw [hk] at hk0; cases hk0
  · have := h.im
    rw [h1] at this
    exact this

/-- The table with its keys' list and map made. -/
def withKeys (t : Tbs) (g I : Nat) : Tbs := { t with k := .slice (some ⟨g, 0, none⟩) 0 0, i := some I }

theorem Tab.made {w : World} {t : Tbs} {mt : Value} {S : St} (h : Tab w t mt S [] []) (hk : t.k = .slice none 0 0) :
    Tab ((((w.setCell ⟨t.T, 4, none⟩ (.slice (some ⟨w.heap.size, 0, none⟩) 0 0)).setCell ⟨t.T, 5, none⟩ (.map (some (w.heap.size + 1)))).alloc (.cells #[] 49)).alloc (.map #[] 0)) (withKeys t w.heap.size (w.heap.size + 1)) mt S [] [] := by
  obtain ⟨hi, _, _⟩ := tbl_old h hk
  have hu : Upd (fun c => c = t.T) w ((((w.setCell ⟨t.T, 4, none⟩ (.slice (some ⟨w.heap.size, 0, none⟩) 0 0)).setCell ⟨t.T, 5, none⟩ (.map (some (w.heap.size + 1)))).alloc (.cells #[] 49)).alloc (.map #[] 0)) :=
    ((((Upd.refl (fun c => c = t.T) w).setCell ⟨t.T, 4, none⟩ _ (.inl rfl)).setCell ⟨t.T, 5, none⟩ _ (.inl rfl)).alloc _).alloc _
  have ne := h.T_ne
  exact
  { tb := by
      have h0 := (((h.tb.set 4 (.slice (some ⟨w.heap.size, 0, none⟩) 0 0)).set 5 (.map (some (w.heap.size + 1)))).alloc (.cells #[] 49)).alloc (.map #[] 0)
      exact h0
    ar := owns_upd h.ar hu (fun c (hc : t.a.ownBlock = some c) e => ne.2.2.2.1 (by rw [hc, e]))
    nm := h.nm.upd hu (fun c (hc : t.d = some c) e => ne.2.1 (by rw [hc, e]))
    sn := h.nm.stamp h.sn hu (fun c (hc : t.d = some c) e => ne.2.1 (by rw [hc, e]))
    st := h.st.upd hu (fun c (hc : some t.s = some c) (e : c = t.T) => ne.1 (by rw [← e]; exact (Option.some.inj hc).symm))
    ss := h.st.stamp h.ss hu (fun c (hc : some t.s = some c) (e : c = t.T) => ne.1 (by rw [← e]; exact (Option.some.inj hc).symm))
    ke := ⟨rfl, .inr ⟨w.heap.size, 0, #[], rfl, Nat.zero_le _, by
      have : (((w.setCell ⟨t.T, 4, none⟩ (.slice (some ⟨w.heap.size, 0, none⟩) 0 0)).setCell ⟨t.T, 5, none⟩ (.map (some (w.heap.size + 1)))).alloc (.cells #[] 49)).heap[w.heap.size]? = some (.cells #[] 49 (0, 0)) := obj_new (by simp) _
      rw [Below.heap_alloc _ _ _ (by simp)]
      exact this, Nat.le_refl _, Nat.zero_le _, rfl, rfl⟩⟩
    im := ⟨#[], 0, obj_new (by simp) _, rfl⟩
    kn := ⟨(fun h => by cases h), (fun h => by cases h)⟩
    an := h.an
    sd := ⟨h.sd.1, (fun (e : some (w.heap.size + 1) = some t.s) => by have := h.st.lt; have := Option.some.inj e; omega), fun b (hb : t.d = some b) (e : some (w.heap.size + 1) = some b) => by
      have h1 := h.nm
      rw [hb] at h1
      have := h1.lt
      have := Option.some.inj e
      omega⟩
    ak := fun b (hb : t.a.ownBlock = some b) (e : some w.heap.size = some b) => by
      obtain ⟨cur, hg⟩ := owns_lt h.ar hb
      have := (Array.getElem?_eq_some_iff.1 hg).1
      have := Option.some.inj e
      omega
    fs := h.fs
    fn := h.fn
    fi := fine_nil _ _ }

theorem upd_more {S T : Nat → Prop} {a b c : World} (h : Upd S a b) (k : Upd T b c) (hT : ∀ i, i < b.heap.size → T i → S i ∨ a.heap.size ≤ i) : Upd S a c :=
  ⟨k.os.trans h.os, k.tape.trans h.tape, k.output.trans h.output, Nat.le_trans h.size k.size, fun i hi hs => (k.block i (Nat.lt_of_lt_of_le hi h.size) (fun ht => by
    rcases hT i (Nat.lt_of_lt_of_le hi h.size) ht with h1 | h1
    · exact hs h1
    · omega)).trans (h.block i hi hs)⟩
theorem upd_grown {w w' : World} {row : Option Nat} (h : w.grownBy w' row) : Upd (fun c => row = some c) w w' := ⟨h.os, h.tape, h.output, h.size, fun k hk hs => h.block k hk (fun e => hs e.symm)⟩
theorem Tab.tb_grown {w w' : World} {t : Tbs} {mt : Value} {S : St} {ks : List Value} {ix : List MapEntry} (h : Tab w t mt S ks ix) {o : Obj} (hg : (w.alloc o).grownBy w' t.k.ownBlock) : Blk w' t.T (tbl mt t) 89 :=
  (upd_grown hg).blk (h.tb.alloc o) h.T_ne.2.2.2.2

/-- One key more in the keys' list. -/
theorem Tab.push_key {w w' : World} {t : Tbs} {mt : Value} {S : St} {ks : List Value} {ix : List MapEntry} {k v' : Value} {n : Nat} (h : Tab w t mt S ks ix) {o : Obj} {I : Nat} (hI : t.i = some I) (hg : (w.alloc o).grownBy w' t.k.ownBlock) (hn : n = ks.length + 1) (hown : w'.ownsRow 0 49 1 v' n (ks ++ [k]))
    (hnil : v' ≠ .slice none 0 0) (hloc : v'.ownBlock = t.k.ownBlock ∨ v'.ownBlock = some (w.alloc o).heap.size) :
    Tab (w'.setCell ⟨t.T, 4, none⟩ v') { t with k := v' } mt S (ks ++ [k]) ix ∧ Upd (Fp t) w (w'.setCell ⟨t.T, 4, none⟩ v') := by
  have ne := h.T_ne
  have rn := h.row_ne
  have hu1 : Upd (fun c => t.k.ownBlock = some c) w w' := ((Upd.refl _ w).alloc o).trans (upd_grown hg)
  have hu : Upd (fun c => t.k.ownBlock = some c ∨ c = t.T) w (w'.setCell ⟨t.T, 4, none⟩ v') := (hu1.mono (fun _ _ h => .inl h)).setCell ⟨t.T, 4, none⟩ _ (.inl (.inr rfl))
  have hvT : v'.ownBlock ≠ some t.T := by
    rcases hloc with h1 | h1
    · rw [h1]; exact ne.2.2.2.2
    · rw [h1]; intro e; have e := Option.some.inj e; rw [World.size_alloc] at e; have := h.tb.lt; omega
  refine ⟨?_, hu.mono (fun c _ h => h.elim (fun h => .inr (.inr (.inr (.inr (.inl h))))) (fun h => .inl h))⟩
  exact
  { tb := (h.tb_grown hg).set 4 v'
    ar := owns_upd h.ar hu (fun c (hc : t.a.ownBlock = some c) e => by
      rcases e with e | e
      · exact h.ak c hc e
      · exact ne.2.2.2.1 (by rw [hc, e]))
    nm := h.nm.upd hu (fun c (hc : t.d = some c) e => by
      rcases e with e | e
      · exact (rn.2 c e).2.1 hc
      · exact ne.2.1 (by rw [hc, e]))
    sn := h.nm.stamp h.sn hu (fun c (hc : t.d = some c) e => by
      rcases e with e | e
      · exact (rn.2 c e).2.1 hc
      · exact ne.2.1 (by rw [hc, e]))
    st := h.st.upd hu (fun c (hc : some t.s = some c) e => by
      have hc := Option.some.inj hc
      rcases e with e | e
      · exact (rn.2 c e).1 hc.symm
      · exact ne.1 (by rw [hc, e]))
    ss := h.st.stamp h.ss hu (fun c (hc : some t.s = some c) e => by
      have hc := Option.some.inj hc
      rcases e with e | e
      · exact (rn.2 c e).1 hc.symm
      · exact ne.1 (by rw [hc, e]))
    ke := by
      rw [List.length_append, List.length_singleton, ← hn]
      exact owns_upd hown ((Upd.refl (fun c => c = t.T) w').setCell ⟨t.T, 4, none⟩ v' (.inl rfl)) (fun c hc e => hvT (by rw [hc, e]))
    im := h.im.upd hu (fun c (hc : t.i = some c) e => by
      rcases e with e | e
      · exact (rn.2 c e).2.2 hc
      · exact ne.2.2.1 (by rw [hc, e]))
    kn := ⟨(fun e => by have e : t.i = none := e; rw [hI] at e; cases e), fun e => absurd e hnil⟩
    an := h.an
    sd := h.sd
    ak := fun b (hb : t.a.ownBlock = some b) (e : v'.ownBlock = some b) => by
      rcases hloc with h1 | h1
      · exact h.ak b hb (by rw [← h1]; exact e)
      · rw [h1] at e
        obtain ⟨cur, hg⟩ := owns_lt h.ar hb
        have := (Array.getElem?_eq_some_iff.1 hg).1
        have e := Option.some.inj e
        rw [World.size_alloc] at e
        omega
    fs := h.fs
    fn := h.fn
    fi := h.fi }

theorem row_some {w : World} {base n : Nat} {e : TypeId} {v : Value} {xs : List Value} (h : w.ownsRow base e 1 v n xs) (hn : 0 < n) : ∃ g cap, v = .slice (some ⟨g, 0, none⟩) n cap := by
  rcases h.2 with ⟨_, h0⟩ | ⟨g, cap, cur, hv, _⟩
  · omega
  · exact ⟨g, cap, hv⟩

theorem infoLV : (Tryz.prog.info? 49).map (fun i => (i.zero, i.size, i.bytes)) = some (some Value.nilIface, 1, 16) := by kernel_rfl

set_option maxHeartbeats 1600000 in
theorem set_added (t : Tbs) (mt : Value) (S : St) (ks : List Value) (ix : List MapEntry) (s : ByteArray) (ty : TypeId) (x : Value) (w : World) (g cap I : Nat) (hI : t.i = some I) (hk1 : t.k = .slice (some ⟨g, 0, none⟩) ks.length cap) (hty : ty ≠ 69) (hkl : ks.length ≤ 1048576) (hsp : spot keyEq (kval (.str s)) ix 0 = none) (h : Tab w t mt S ks ix) :
    Calls Tryz.prog 44 #[.pointer (some ⟨t.T, 0, none⟩), .string s, .iface ty x] w (SetStr t mt S ks ix s (.iface ty x) false w) := by
  have hnn := ne_nil ty x hty
  have c3 := h.tb.at (o := 3) rfl
  have lt := h.tb.lt
  have c4 := h.tb.at (o := 4) rfl
  rw [hk1] at c4
  obtain ⟨es0, c0, hms, hes⟩ : ∃ e c, (w).heap[t.s]? = some (.map e c) ∧ e.toList = S.str := h.st
  have hsk : ∀ e ∈ es0.toList, IsStr e.key := fun e he => by rw [hes] at he; exact (h.fs.keys e he).1
  obtain ⟨w1, es1, c1, hrun, hu1, hb1, hp1⟩ := run_put (v := Value.iface ty x) (w) Tryz.underlying86 hms (str_run s es0.toList hsk)
  rw [hes] at hp1
  have h2 := h.put_str hu1 hb1 hp1
  have c5 : w1.cell? ⟨t.T, 5, none⟩ = some (.map (t).i) := h2.tb.at (o := 5) rfl
  rw [show (t).i = some I from hI] at c5
  obtain ⟨es2, c2, him, hix⟩ : ∃ e c, w1.heap[I]? = some (.map e c) ∧ e.toList = ix := by
    have := h2.im
    rw [show (t).i = some I from hI] at this
    exact this
  have hl := look_none (k := kval (.str s)) (z := .int .i64 0) w1 Tryz.underlying87 (by kernel_rfl) him (key_run (.str s) es2.toList (fun e he => by rw [hix] at he; exact (h.fi.keys e he).1)) (by rw [hix]; exact hsp) true
  rw [show kval (.str s) = Value.iface 78 (.string s) from rfl] at hl
  have PT := Lib.hid (put_of_to sapart h.fs ⟨s, rfl⟩ (seq_self s) hp1)
  have UP := Lib.hid ((show Upd (Fp t) w (w) from Upd.refl (Fp t) w).trans (hu1.mono (T := Fp t) (fun c _ e => .inr (.inr (.inr (.inl e))))))
  have H2 := Lib.hid h2
  have HP := Lib.hid hsp
  clear h2 hms hes hsk hu1 hb1 hp1 him hix hsp
  go_enter Tryz.func44, Tryz.ntmps44
  go_wp2
  refine wp_region_tail_at 11 (by kernel_rfl) (by kernel_rfl) (fun w2 hW2 => ?_)
  have up2 : Upd (Fp t) w w2 := by rw [hW2]; exact UP.out.drew
  have h3 : Tab w2 (t) mt { S with str := es1.toList } ks ix := by rw [hW2]; exact H2.out.upd ((Upd.refl (fun _ => False) w1).drew) (fun _ _ h => h)
  have c4 : w2.cell? ⟨t.T, 4, none⟩ = some (t).k := h3.tb.at (o := 4) rfl
  rw [show (t).k = .slice (some ⟨g, 0, none⟩) ks.length cap from hk1] at c4
  have c5 : w2.cell? ⟨t.T, 5, none⟩ = some (.map (t).i) := h3.tb.at (o := 5) rfl
  rw [show (t).i = some I from hI] at c5
  obtain ⟨es2, c2, him, hix⟩ : ∃ e c, w2.heap[I]? = some (.map e c) ∧ e.toList = ix := by
    have := h3.im
    rw [show (t).i = some I from hI] at this
    exact this
  obtain ⟨w3, es3, c3, hrun3, hu3, hb3, hp3⟩ := run_put (k := kval (.str s)) (v := Value.int .i64 (ks.length : Int)) w2 Tryz.underlying87 him (key_run (.str s) es2.toList (fun e he => by rw [hix] at he; exact (h3.fi.keys e he).1))
  rw [show kval (.str s) = Value.iface 78 (.string s) from rfl] at hrun3
  rw [hix] at hp3
  have h4 := h3.put_key (show (t).i = some I from hI) (key_self s) hu3 hb3 hp3
  have K4 := Lib.hid (show ∃ n, es3.toList = ix ++ [⟨kval (.str s), .int .i64 ks.length, n⟩] from by
    rcases hp3 with ⟨_, n, hn⟩ | ⟨i, v0, e0, k', n, h1, _⟩
    · exact ⟨n, hn⟩
    · rw [HP.out] at h1; cases h1)
  have c4b : w3.cell? ⟨t.T, 4, none⟩ = some (t).k := h4.tb.at (o := 4) rfl
  rw [show (t).k = .slice (some ⟨g, 0, none⟩) ks.length cap from hk1] at c4b
  have U3 := Lib.hid (upd_more up2 hu3 (fun c _ e => .inl (.inr (.inr (.inr (.inr (.inr (by rw [hI, e]))))))))
  have H4 := Lib.hid h4
  obtain ⟨i0, hi0, hz0, hz1, hz2⟩ := info_parts infoLV
  have own : w3.ownsRow 0 49 1 (.slice (some ⟨g, 0, none⟩) ks.length cap) ks.length ks := by
    have := H4.out.ke
    rw [show (t).k = .slice (some ⟨g, 0, none⟩) ks.length cap from hk1] at this
    exact this
  have OWN := Lib.hid own
  have hlt3 : t.T < w3.heap.size := H4.out.tb.lt
  clear h3 h4 hu3 hb3 hp3 him hix hW2 up2 own H2
  simp only [List.take_succ_cons, List.take_zero, List.drop_succ_cons, List.drop_zero]
  repeat still_step
  refine wpStill_nil ?_
  go_wp2_with (at_builtin; refine wpList_append_own_at _ rfl _ _ 84 rfl 0 49 i0 .nilIface 1 16 Tryz.underlying84 hi0 hz0 hz1 hz2 rfl (by decide) _ _ _ rfl (OWN.out.alloc _) ⟨_, 0, none⟩ 1 1 [.iface 78 (.string s)] rfl rfl (cell_one_new _ _ _) (by intro u hu; simp at hu; subst hu; rfl) (by unfold maxLen; omega) (by omega) (Nat.zero_le _) ?_; intro v' w4 hown hgrow hnil hloc; have OW4 := Lib.hid hown; have GR := Lib.hid hgrow; have NL := Lib.hid hnil; have LO := Lib.hid (show v'.ownBlock = (Value.slice (some ⟨g, 0, none⟩) ks.length cap).ownBlock ∨ v'.ownBlock = some (w3.alloc (.cells #[.iface 78 (.string s)] 49)).heap.size from hloc); have c4x : w4.cell? ⟨t.T, 4, none⟩ = some (t).k := (H4.out.tb_grown (t := t) (by rw [show (t).k = .slice (some ⟨g, 0, none⟩) ks.length cap from hk1]; exact GR.out)).at (o := 4) rfl; have f4x : w4.frozen? ⟨t.T, 4, none⟩ = false := (H4.out.tb_grown (t := t) (by rw [show (t).k = .slice (some ⟨g, 0, none⟩) ks.length cap from hk1]; exact GR.out)).free 4; clear hnil hloc hgrow; obtain ⟨g2, cap2, hv2⟩ := row_some hown (by omega); have HV2 := Lib.hid hv2; clear hown; rw [hv2]; clear hv2)
  go_end0
  obtain ⟨hp5, hu5⟩ := H4.out.push_key (k := kval (.str s)) (show (t).i = some I from hI) (by rw [show (t).k = .slice (some ⟨g, 0, none⟩) ks.length cap from hk1]; exact GR.out) rfl OW4.out (fun e => by rw [HV2.out] at e; cases e) (by rw [show (t).k = .slice (some ⟨g, 0, none⟩) ks.length cap from hk1]; exact LO.out)
  rw [HV2.out] at hp5 hu5
  have hfp : ∀ c, Fp (t) c → Fp t c ∨ w.heap.size ≤ c := fun c h => .inl h
  refine ⟨rfl, { (t) with k := .slice (some ⟨g2, 0, none⟩) (ks.length + 1) cap2 }, _, _, es3.toList, rfl, upd_more U3.out hu5 (fun c _ h => hfp c h), fun c hc => ?_, hp5, PT.out, fun _ => .inr ⟨rfl, HP.out, K4.out⟩, (fun h => by cases h), by simp⟩
  have hsz : w.heap.size ≤ w3.heap.size := U3.out.size
  have lo := LO.out
  rw [HV2.out] at lo
  rcases hc with h | h | h | h | h | h
  · exact hfp c (.inl h)
  · exact hfp c (.inr (.inl h))
  · exact hfp c (.inr (.inr (.inl h)))
  · exact hfp c (.inr (.inr (.inr (.inl h))))
  · rcases lo with lo | lo
    · exact hfp c (.inr (.inr (.inr (.inr (.inl (by rw [show (t).k = .slice (some ⟨g, 0, none⟩) ks.length cap from hk1, ← lo]; exact h))))))
    · right
      have h : (Value.slice (some ⟨g2, 0, none⟩) (ks.length + 1) cap2).ownBlock = some c := h
      rw [lo] at h
      have := Option.some.inj h
      rw [World.size_alloc] at this
      omega
  · exact hfp c (.inr (.inr (.inr (.inr (.inr h)))))

set_option maxHeartbeats 1600000 in
theorem set_first (t : Tbs) (mt : Value) (S : St) (s : ByteArray) (ty : TypeId) (x : Value) (w : World) (hk0 : t.k = .slice none 0 0) (hty : ty ≠ 69) (h : Tab w t mt S [] []) :
    Calls Tryz.prog 44 #[.pointer (some ⟨t.T, 0, none⟩), .string s, .iface ty x] w (SetStr t mt S [] [] s (.iface ty x) false w) := by
  have hnn := ne_nil ty x hty
  have c3 := h.tb.at (o := 3) rfl
  have lt := h.tb.lt
  have c4 := h.tb.at (o := 4) rfl
  have f4 := h.tb.free 4
  have c5 := h.tb.at (o := 5) rfl
  have f5 := h.tb.free 5
  rw [hk0] at c4
  rw [(tbl_old h hk0).1] at c5
  have hmm : ∀ w, (Instr.makeMap 87 none).run Tryz.prog w = .ok (.map (some w.heap.size)) (w.alloc (.map #[] 0)) := fun w => rfl
  have hT := h.made hk0
  have hsp : spot keyEq (kval (.str s)) [] 0 = none := rfl
  obtain ⟨es0, c0, hms, hes⟩ : ∃ e c, (((((w.setCell ⟨t.T, 4, none⟩ (.slice (some ⟨w.heap.size, 0, none⟩) 0 0)).setCell ⟨t.T, 5, none⟩ (.map (some (w.heap.size + 1)))).alloc (.cells #[] 49)).alloc (.map #[] 0))).heap[t.s]? = some (.map e c) ∧ e.toList = S.str := hT.st
  have hsk : ∀ e ∈ es0.toList, IsStr e.key := fun e he => by rw [hes] at he; exact (hT.fs.keys e he).1
  obtain ⟨w1, es1, c1, hrun, hu1, hb1, hp1⟩ := run_put (v := Value.iface ty x) (((((w.setCell ⟨t.T, 4, none⟩ (.slice (some ⟨w.heap.size, 0, none⟩) 0 0)).setCell ⟨t.T, 5, none⟩ (.map (some (w.heap.size + 1)))).alloc (.cells #[] 49)).alloc (.map #[] 0))) Tryz.underlying86 hms (str_run s es0.toList hsk)
  rw [hes] at hp1
  have h2 := hT.put_str hu1 hb1 hp1
  have c5 : w1.cell? ⟨t.T, 5, none⟩ = some (.map (withKeys t w.heap.size (w.heap.size + 1)).i) := h2.tb.at (o := 5) rfl
  rw [show (withKeys t w.heap.size (w.heap.size + 1)).i = some (w.heap.size + 1) from rfl] at c5
  obtain ⟨es2, c2, him, hix⟩ : ∃ e c, w1.heap[(w.heap.size + 1)]? = some (.map e c) ∧ e.toList = [] := by
    have := h2.im
    rw [show (withKeys t w.heap.size (w.heap.size + 1)).i = some (w.heap.size + 1) from rfl] at this
    exact this
  have hl := look_none (k := kval (.str s)) (z := .int .i64 0) w1 Tryz.underlying87 (by kernel_rfl) him (key_run (.str s) es2.toList (fun e he => by rw [hix] at he; exact (hT.fi.keys e he).1)) (by rw [hix]; exact hsp) true
  rw [show kval (.str s) = Value.iface 78 (.string s) from rfl] at hl
  have PT := Lib.hid (put_of_to sapart hT.fs ⟨s, rfl⟩ (seq_self s) hp1)
  have UP := Lib.hid ((show Upd (Fp t) w (((((w.setCell ⟨t.T, 4, none⟩ (.slice (some ⟨w.heap.size, 0, none⟩) 0 0)).setCell ⟨t.T, 5, none⟩ (.map (some (w.heap.size + 1)))).alloc (.cells #[] 49)).alloc (.map #[] 0))) from ((((Upd.refl (Fp t) w).setCell ⟨t.T, 4, none⟩ _ (.inl (.inl rfl))).setCell ⟨t.T, 5, none⟩ _ (.inl (.inl rfl))).alloc _).alloc _).trans (hu1.mono (T := Fp t) (fun c _ e => .inr (.inr (.inr (.inl e))))))
  have H2 := Lib.hid h2
  have HP := Lib.hid hsp
  clear h2 hms hes hsk hu1 hb1 hp1 him hix hsp
  go_enter Tryz.func44, Tryz.ntmps44
  go_wp2
  refine wp_region_tail_at 11 (by kernel_rfl) (by kernel_rfl) (fun w2 hW2 => ?_)
  have up2 : Upd (Fp t) w w2 := by rw [hW2]; exact UP.out.drew
  have h3 : Tab w2 (withKeys t w.heap.size (w.heap.size + 1)) mt { S with str := es1.toList } [] [] := by rw [hW2]; exact H2.out.upd ((Upd.refl (fun _ => False) w1).drew) (fun _ _ h => h)
  have c4 : w2.cell? ⟨t.T, 4, none⟩ = some (withKeys t w.heap.size (w.heap.size + 1)).k := h3.tb.at (o := 4) rfl
  rw [show (withKeys t w.heap.size (w.heap.size + 1)).k = .slice (some ⟨w.heap.size, 0, none⟩) 0 0 from rfl] at c4
  have c5 : w2.cell? ⟨t.T, 5, none⟩ = some (.map (withKeys t w.heap.size (w.heap.size + 1)).i) := h3.tb.at (o := 5) rfl
  rw [show (withKeys t w.heap.size (w.heap.size + 1)).i = some (w.heap.size + 1) from rfl] at c5
  obtain ⟨es2, c2, him, hix⟩ : ∃ e c, w2.heap[(w.heap.size + 1)]? = some (.map e c) ∧ e.toList = [] := by
    have := h3.im
    rw [show (withKeys t w.heap.size (w.heap.size + 1)).i = some (w.heap.size + 1) from rfl] at this
    exact this
  obtain ⟨w3, es3, c3, hrun3, hu3, hb3, hp3⟩ := run_put (k := kval (.str s)) (v := Value.int .i64 (0 : Int)) w2 Tryz.underlying87 him (key_run (.str s) es2.toList (fun e he => by rw [hix] at he; exact (h3.fi.keys e he).1))
  rw [show kval (.str s) = Value.iface 78 (.string s) from rfl] at hrun3
  rw [hix] at hp3
  have h4 := h3.put_key (show (withKeys t w.heap.size (w.heap.size + 1)).i = some (w.heap.size + 1) from rfl) (key_self s) hu3 hb3 hp3
  have K4 := Lib.hid (show ∃ n, es3.toList = [] ++ [⟨kval (.str s), .int .i64 0, n⟩] from by
    rcases hp3 with ⟨_, n, hn⟩ | ⟨i, v0, e0, k', n, h1, _⟩
    · exact ⟨n, hn⟩
    · rw [HP.out] at h1; cases h1)
  have c4b : w3.cell? ⟨t.T, 4, none⟩ = some (withKeys t w.heap.size (w.heap.size + 1)).k := h4.tb.at (o := 4) rfl
  rw [show (withKeys t w.heap.size (w.heap.size + 1)).k = .slice (some ⟨w.heap.size, 0, none⟩) 0 0 from rfl] at c4b
  have U3 := Lib.hid (upd_more up2 hu3 (fun c _ e => .inr (by have e : c = w.heap.size + 1 := e; omega)))
  have H4 := Lib.hid h4
  obtain ⟨i0, hi0, hz0, hz1, hz2⟩ := info_parts infoLV
  have own : w3.ownsRow 0 49 1 (.slice (some ⟨w.heap.size, 0, none⟩) 0 0) 0 [] := by
    have := H4.out.ke
    rw [show (withKeys t w.heap.size (w.heap.size + 1)).k = .slice (some ⟨w.heap.size, 0, none⟩) 0 0 from rfl] at this
    exact this
  have OWN := Lib.hid own
  have hlt3 : t.T < w3.heap.size := H4.out.tb.lt
  clear h3 h4 hu3 hb3 hp3 him hix hW2 up2 own H2
  simp only [List.take_succ_cons, List.take_zero, List.drop_succ_cons, List.drop_zero]
  repeat still_step
  refine wpStill_nil ?_
  go_wp2_with (at_builtin; refine wpList_append_own_at _ rfl _ _ 84 rfl 0 49 i0 .nilIface 1 16 Tryz.underlying84 hi0 hz0 hz1 hz2 rfl (by decide) _ _ _ rfl (OWN.out.alloc _) ⟨_, 0, none⟩ 1 1 [.iface 78 (.string s)] rfl rfl (cell_one_new _ _ _) (by intro u hu; simp at hu; subst hu; rfl) (by unfold maxLen; omega) (by omega) (Nat.zero_le _) ?_; intro v' w4 hown hgrow hnil hloc; have OW4 := Lib.hid hown; have GR := Lib.hid hgrow; have NL := Lib.hid hnil; have LO := Lib.hid (show v'.ownBlock = (Value.slice (some ⟨w.heap.size, 0, none⟩) 0 0).ownBlock ∨ v'.ownBlock = some (w3.alloc (.cells #[.iface 78 (.string s)] 49)).heap.size from hloc); have c4x : w4.cell? ⟨t.T, 4, none⟩ = some (withKeys t w.heap.size (w.heap.size + 1)).k := (H4.out.tb_grown (t := withKeys t w.heap.size (w.heap.size + 1)) (by rw [show (withKeys t w.heap.size (w.heap.size + 1)).k = .slice (some ⟨w.heap.size, 0, none⟩) 0 0 from rfl]; exact GR.out)).at (o := 4) rfl; have f4x : w4.frozen? ⟨t.T, 4, none⟩ = false := (H4.out.tb_grown (t := withKeys t w.heap.size (w.heap.size + 1)) (by rw [show (withKeys t w.heap.size (w.heap.size + 1)).k = .slice (some ⟨w.heap.size, 0, none⟩) 0 0 from rfl]; exact GR.out)).free 4; clear hnil hloc hgrow; obtain ⟨g2, cap2, hv2⟩ := row_some hown (by omega); have HV2 := Lib.hid hv2; clear hown; rw [hv2]; clear hv2)
  go_end0
  obtain ⟨hp5, hu5⟩ := H4.out.push_key (k := kval (.str s)) (show (withKeys t w.heap.size (w.heap.size + 1)).i = some (w.heap.size + 1) from rfl) (by rw [show (withKeys t w.heap.size (w.heap.size + 1)).k = .slice (some ⟨w.heap.size, 0, none⟩) 0 0 from rfl]; exact GR.out) rfl OW4.out (fun e => by rw [HV2.out] at e; cases e) (by rw [show (withKeys t w.heap.size (w.heap.size + 1)).k = .slice (some ⟨w.heap.size, 0, none⟩) 0 0 from rfl]; exact LO.out)
  rw [HV2.out] at hp5 hu5
  have hfp : ∀ c, Fp (withKeys t w.heap.size (w.heap.size + 1)) c → Fp t c ∨ w.heap.size ≤ c := fun c h => by
    rcases h with h | h | h | h | h | h
    · exact .inl (.inl h)
    · exact .inl (.inr (.inl h))
    · exact .inl (.inr (.inr (.inl h)))
    · exact .inl (.inr (.inr (.inr (.inl h))))
    · exact .inr (Nat.le_of_eq (Option.some.inj h))
    · exact .inr (by have := Option.some.inj h; omega)
  refine ⟨rfl, { (withKeys t w.heap.size (w.heap.size + 1)) with k := .slice (some ⟨g2, 0, none⟩) (0 + 1) cap2 }, _, _, es3.toList, rfl, upd_more U3.out hu5 (fun c _ h => hfp c h), fun c hc => ?_, hp5, PT.out, fun _ => .inr ⟨rfl, HP.out, K4.out⟩, (fun h => by cases h), by simp⟩
  have hsz : w.heap.size ≤ w3.heap.size := U3.out.size
  have lo := LO.out
  rw [HV2.out] at lo
  rcases hc with h | h | h | h | h | h
  · exact hfp c (.inl h)
  · exact hfp c (.inr (.inl h))
  · exact hfp c (.inr (.inr (.inl h)))
  · exact hfp c (.inr (.inr (.inr (.inl h))))
  · rcases lo with lo | lo
    · exact hfp c (.inr (.inr (.inr (.inr (.inl (by rw [show (withKeys t w.heap.size (w.heap.size + 1)).k = .slice (some ⟨w.heap.size, 0, none⟩) 0 0 from rfl, ← lo]; exact h))))))
    · right
      have h : (Value.slice (some ⟨g2, 0, none⟩) (0 + 1) cap2).ownBlock = some c := h
      rw [lo] at h
      have := Option.some.inj h
      rw [World.size_alloc] at this
      omega
  · exact hfp c (.inr (.inr (.inr (.inr (.inr h)))))

end Go.Proofs.YtlmadbgpllokfaaGreatFmt
