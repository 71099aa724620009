/- Small functions of the laws on proxies: walked; how the tables are laid. -/
import Derived.Test.YtlmadbgpllokfaaGreatFmtPrx
import Derived.Test.YtlmadbgpllokfaaGreatFmtStb
namespace Go.Proofs.YtlmadbgpllokfaaGreatFmt
open Go.RowKit Go.Mapy Go.Tbl
set_option maxRecDepth 100000

def SelfB (b : Nat) : Prop := (FloatKind.f64.format.order b b == some .eq) = true
def ValsK (val : Nat → Nat) (n : Nat) : Prop := ∀ m, m < n → SelfB (val m)

set_option maxHeartbeats 1600000 in
theorem vals_ok (aV : Option Addr) (nV cV n : Nat) (val : Nat → Nat) (w : World) (hV : n ≤ nV) (lV : nV ≤ 4096) (hv : Cells w aV nV fun j => .float .f64 (val j)) :
    Calls Tryz.prog 43 #[.slice aV nV cV, .int .i64 n] w (Says (ValsK val n) w) := by
  have HV := Lib.hid hv
  clear hv
  go_enter Tryz.func43, Tryz.ntmps43
  go_wp2
  go_loopw [5] (fun iv wr => ∃ m : Nat, m ≤ n ∧ iv = .int .i64 m ∧ Upd (fun _ => False) w wr ∧ ValsK val m) (fun iv _ => n - (intOf iv).toNat)
  case atStart => exact ⟨0, Nat.zero_le _, rfl, Upd.refl _ _, fun m h => absurd h (by omega)⟩
  case round =>
    obtain ⟨m, hm, rfl, hu, hs⟩ := hrel
    have HU := Lib.hid hu
    have HS := Lib.hid hs
    clear hu hs
    by_cases hlt : m < n
    · obtain ⟨b1, off1, rfl, hc1⟩ := (HV.out.upd HU.out).one (j := m) (by omega)
      have i1 : (0 : Int) ≤ (m : Int) := by omega
      have i2 : (m : Int) < (nV : Int) := by omega
      by_cases hnan : (FloatKind.f64.format.order (val m) (val m) == some .eq) = true
      · have hna : (FloatKind.f64.format.order (val m) (val m) != some .eq) = false := by simpa [bne] using hnan
        have HN := Lib.hid hnan
        clear hnan
        go_wp2
        try go_quiet (fail)
        try go_wp2
        go_roundw
        case rel =>
          refine ⟨m + 1, by omega, by go_num, (by first | exact HU.out.drewN _ | exact HU.out), fun k hk => ?_⟩
          by_cases e : k = m
          · subst e; exact HN.out
          · exact HS.out k (by omega)
        case measure => simp [intOf]; omega
      · have hna : (FloatKind.f64.format.order (val m) (val m) != some .eq) = true := by simpa [bne] using hnan
        clear hnan
        go_wp2
        try go_quiet (fail)
        try go_wp2
        go_ret
        exact ⟨false, rfl, (by first | exact HU.out.drewN _ | exact HU.out), fun h => by cases h⟩
    · obtain rfl : m = n := by omega
      go_wp2
      go_ret
      exact ⟨true, rfl, HU.out, fun _ => HS.out⟩

/-- The text stands among the first n. -/
def has (pre : Nat → ByteArray) (n : Nat) (q : ByteArray) : Bool := (Last.last seqk pre q n).isSome
theorem has_yes {pre : Nat → ByteArray} {n m : Nat} {q : ByteArray} (hm : m < n) (h : seqk q (pre m) = true) : has pre n q = true := by
  unfold has
  cases hl : Last.last seqk pre q n with
  | some j => rfl
  | none =>
    rw [Last.last_none] at hl
    rw [hl m hm] at h
    cases h

set_option maxHeartbeats 800000 in
theorem has_str (a : Option Addr) (K c : Nat) (key : Nat → ByteArray) (p : ByteArray) (w : World) (hK : K ≤ 4096) (hc : Cells w a K fun j => .string (key j)) :
    Calls Tryz.prog 45 #[.slice a K c, .string p] w fun e w' => e = .returned (.bool (has key K p)) ∧ w = w' := by
  have HC := Lib.hid hc
  clear hc
  go_enter Tryz.func45, Tryz.ntmps45
  go_wp2
  go_loop [5] (fun iv => ∃ m : Nat, m ≤ K ∧ iv = .int .i64 m ∧ Last.last seqk key p m = none) (fun iv => K - (intOf iv).toNat)
  case atStart => exact ⟨0, Nat.zero_le _, rfl, rfl⟩
  case round =>
    obtain ⟨m, hm, rfl, hn⟩ := hrel
    have HN := Lib.hid hn
    clear hn
    by_cases hlt : m < K
    · obtain ⟨b, off, rfl, hcell⟩ := HC.out.one (j := m) (by omega)
      have i1 : (0 : Int) ≤ (m : Int) := by omega
      have i2 : (m : Int) < (K : Int) := by omega
      cases hk : ((key m).toList == p.toList) with
      | true =>
        have HY := Lib.hid (has_yes (pre := key) (q := p) hlt hk)
        go_wp2
        go_ret
        exact ⟨by rw [HY.out]; rfl, rfl⟩
      | false =>
        have HX := Lib.hid (show Last.last seqk key p (m + 1) = none by
          rw [Last.last, if_neg (by show ¬ seqk p (key m) = true; unfold seqk; rw [hk]; simp)]
          exact HN.out)
        go_wp2
        go_round
        case rel => exact ⟨m + 1, by omega, by go_num, HX.out⟩
        case measure => simp [intOf]; omega
    · obtain rfl : m = K := by omega
      have HX := Lib.hid (show has key m p = false by unfold has; rw [HN.out]; rfl)
      go_wp2
      go_ret
      exact ⟨by rw [HX.out]; rfl, rfl⟩

set_option maxHeartbeats 800000 in
theorem raw_equal_nil (L : Option Addr) (w : World) : Calls Tryz.prog 35 #[.pointer L, nilw, nilw] w fun e w' => e = .returned (.bool true) ∧ w = w' := by
  unfold nilw
  go_enter Tryz.func35, Tryz.ntmps35
  go_wp2_with fail
  refine (show Calls Tryz.prog 66 #[.pointer L, .iface 69 (.int .u8 0), .iface 69 (.int .u8 0), .bool true] _ (fun e w' => e = .returned (.bool true) ∧ w = w') from by
    go_enter Tryz.func66, Tryz.ntmps66
    go_wp2_with fail
    refine (nil_type _).mono ?_
    rintro e w' ⟨rfl, rfl⟩
    go_wp2_with fail
    refine (nil_type _).mono ?_
    rintro e w' ⟨rfl, rfl⟩
    go_wp2
    go_ret
    exact ⟨rfl, rfl⟩).mono ?_
  rintro e w' ⟨rfl, rfl⟩
  go_wp2
  go_ret
  exact ⟨rfl, rfl⟩

/-- A table with another metatable. -/
theorem Tab.meta {w : World} {t : Tbs} {mt : Value} {S : St} {ks : List Value} {ix : List MapEntry} (h : Tab w t mt S ks ix) (mt' : Value) : Tab (w.setCell ⟨t.T, 0, none⟩ mt') t mt' S ks ix := by
  have hu : Upd (fun c => c = t.T) w (w.setCell ⟨t.T, 0, none⟩ mt') := (Upd.refl (fun c => c = t.T) w).setCell ⟨t.T, 0, none⟩ _ (.inl rfl)
  have ne := h.T_ne
  exact
  { tb := h.tb.set 0 mt'
    ar := owns_upd h.ar hu (fun c (hc : t.a.ownBlock = some c) e => ne.2.2.2.1 (by rw [hc, e]))
    nm := h.nm.upd hu (fun c (hc : t.d = some c) e => ne.2.1 (by rw [hc, e]))
    sn := h.nm.stamp h.sn hu (fun c (hc : t.d = some c) e => ne.2.1 (by rw [hc, e]))
    st := h.st.upd hu (fun c (hc : some t.s = some c) (e : c = t.T) => ne.1 (by rw [← e]; exact (Option.some.inj hc).symm))
    ss := h.st.stamp h.ss hu (fun c (hc : some t.s = some c) (e : c = t.T) => ne.1 (by rw [← e]; exact (Option.some.inj hc).symm))
    ke := owns_upd h.ke hu (fun c (hc : t.k.ownBlock = some c) e => ne.2.2.2.2 (by rw [hc, e]))
    im := h.im.upd hu (fun c (hc : t.i = some c) e => ne.2.2.1 (by rw [hc, e]))
    kn := h.kn
    an := h.an
    sd := h.sd
    ak := h.ak
    fs := h.fs
    fn := h.fn
    fi := h.fi }

abbrev tnew (T A m : Nat) : Tbs := ⟨T, .slice (some ⟨A, 0, none⟩) 0 32, none, m, .slice none 0 0, none⟩
abbrev sn0 : St := ⟨[], [], []⟩
theorem tab_val (T : Nat) : Val (tabv T) false := .inr ⟨rfl, _, _, rfl, by decide, rfl⟩

/-- A trio as it is laid: three fresh tables, the metatable's store, the table's metatable. -/
theorem trio_new {w0 w1 w2 w3 w4 : World} {T1 A1 m1 T2 A2 m2 T3 A3 m3 : Nat} {e : Ending} (h1 : NewT w0 w1 T1 A1 m1) (h2 : NewT w1 w2 T2 A2 m2) (h3 : NewT w2 w3 T3 A3 m3) (h4 : SetKey (tnew T3 A3 m3) nilw sn0 [] (.str nxs) (tabv T2) w3 e w4) :
    ∃ tm Sm km im, tm.T = T3 ∧ Trio (w4.setCell ⟨T1, 0, none⟩ (tabv T3)) (tnew T1 A1 m1) tm (tnew T2 A2 m2) sn0 [] [] Sm km im sn0 [] [] ∧ (∀ c, Fp3 (tnew T1 A1 m1) tm (tnew T2 A2 m2) c → w0.heap.size ≤ c) ∧ Upd (fun _ => False) w0 (w4.setCell ⟨T1, 0, none⟩ (tabv T3)) := by
  obtain ⟨_, tm, Sm, km, im, g1, g2, g3, g4, g5, _, _⟩ := h4
  have f1 := new_fp h1
  have f2 := new_fp h2
  have f3 := new_fp h3
  have l1 : ∀ c, Fp (tnew T1 A1 m1) c → c < w1.heap.size := fun c hc => (Tab.new h1).lt hc
  have l2 : ∀ c, Fp (tnew T2 A2 m2) c → c < w2.heap.size := fun c hc => (Tab.new h2).lt hc
  have s1 := h1.upd.size
  have s2 := h2.upd.size
  have s3 := h3.upd.size
  have fm : ∀ c, Fp tm c → w2.heap.size ≤ c := fun c hc => by
    rcases g3 c hc with h | h
    · exact f3 c h
    · omega
  have u4 : Upd (fun c => w2.heap.size ≤ c) w3 w4 := g2.mono (fun c _ hc => f3 c hc)
  have t1 : Tab w4 (tnew T1 A1 m1) nilw sn0 [] [] := (((Tab.new h1).upd h2.upd (fun _ _ h => h)).upd h3.upd (fun _ _ h => h)).upd u4 (fun c hc h => by have := l1 c hc; omega)
  have t2 : Tab w4 (tnew T2 A2 m2) nilw sn0 [] [] := ((Tab.new h2).upd h3.upd (fun _ _ h => h)).upd u4 (fun c hc h => by have := l2 c hc; omega)
  have hT1 : T1 < w1.heap.size := l1 T1 (.inl rfl)
  have u5 : Upd (fun c => c = T1) w4 (w4.setCell ⟨T1, 0, none⟩ (tabv T3)) := (Upd.refl _ _).setCell _ _ (.inl rfl)
  have e3 : tm.T = T3 := g1
  have q1 := t1.meta (tabv T3)
  rw [← e3] at q1
  refine ⟨tm, Sm, km, im, e3, ?_, fun c hc => ?_, ?_⟩
  · rw [← e3]
    rw [← e3] at u5
    refine ⟨q1, g4.upd u5 (fun c hc h => by have := fm c hc; omega), t2.upd u5 (fun c hc h => by have := f2 c hc; omega), ?_, fun c h h' => by have := l1 c h; have := fm c h'; omega, fun c h h' => by have := l1 c h; have := f2 c h'; omega, fun c h h' => by have := fm c h; have := l2 c h'; omega⟩
    rw [g5, show keq (.str nxs) (.str nxs) = true from (ba_beq nxs nxs).2 rfl]
    rfl
  · rcases hc with h | h | h
    · exact f1 c h
    · have := fm c h; omega
    · have := f2 c h; omega
  · have v := (h1.upd.trans h2.upd).trans h3.upd
    exact (v.trans_new u4 (fun i hi => by omega)).trans_new u5 (fun i hi => by rw [hi]; exact f1 T1 (.inl rfl))

/-- The script's values. -/
def pv (key : Nat → ByteArray) (val : Nat → Nat) (j : Nat) (q : ByteArray) (d : Value) : Value := match Last.last seqk key q j with
  | some i => numv (val i)
  | none => d
theorem pv_succ {key : Nat → ByteArray} {val : Nat → Nat} {j : Nat} {q : ByteArray} {d : Value} : pv key val (j + 1) q d = if seqk q (key j) then numv (val j) else pv key val j q d := by
  unfold pv
  rw [Last.last]
  by_cases h : seqk q (key j) = true
  · rw [if_pos h, if_pos h]
  · rw [if_neg h, if_neg h]
/-- What the two tables hold behind j stores. -/
def Prox (pre : Nat → ByteArray) (P : Nat) (key : Nat → ByteArray) (val : Nat → Nat) (j : Nat) (S Sp : St) : Prop := ∀ q : ByteArray,
  (has pre P q = true → holds S (.str q) = pv key val j q (numv 13830554455654793216) ∧ holds Sp (.str q) = nilw) ∧ (has pre P q = false → holds S (.str q) = nilw ∧ holds Sp (.str q) = pv key val j q nilw)
theorem pv_nv (key : Nat → ByteArray) (val : Nat → Nat) (j : Nat) (q : ByteArray) (d : Value) (hd : NV d) : NV (pv key val j q d) := by
  unfold pv
  cases Last.last seqk key q j
  · exact hd
  · exact .inr ⟨_, rfl⟩
theorem Prox.nv {pre : Nat → ByteArray} {P : Nat} {key : Nat → ByteArray} {val : Nat → Nat} {j : Nat} {S Sp : St} (h : Prox pre P key val j S Sp) (q : ByteArray) : NV (holds S (.str q)) ∧ NV (holds Sp (.str q)) := by
  cases hb : has pre P q
  · rw [((h q).2 hb).1, ((h q).2 hb).2]
    exact ⟨.inl rfl, pv_nv _ _ _ _ _ (.inl rfl)⟩
  · rw [((h q).1 hb).1, ((h q).1 hb).2]
    exact ⟨pv_nv _ _ _ _ _ (.inr ⟨_, rfl⟩), .inl rfl⟩
theorem has_eq {q k : ByteArray} (h : seqk q k = true) : q = k := by
  have h1 : keq (.str q) (.str k) = true := by rw [keq_str]; exact h
  exact (ba_beq q k).1 h1
theorem Prox.next {pre : Nat → ByteArray} {P : Nat} {key : Nat → ByteArray} {val : Nat → Nat} {j : Nat} {S Sp S' Sp' : St} (h : Prox pre P key val j S Sp) {here : Bool} (hh : here = true ↔ ∃ b, holds S (.str (key j)) = numv b)
    (h1 : ∀ q, holds S' q = if here && keq q (.str (key j)) then numv (val j) else holds S q) (h2 : ∀ q, holds Sp' q = if !here && keq q (.str (key j)) then numv (val j) else holds Sp q) : Prox pre P key val (j + 1) S' Sp' := by
  have e : here = has pre P (key j) := by
    cases hb : has pre P (key j)
    · cases here
      · rfl
      · obtain ⟨b, hx⟩ := hh.1 rfl
        rw [((h _).2 hb).1] at hx
        cases hx
    · refine hh.2 ?_
      rw [((h _).1 hb).1]
      unfold pv
      cases Last.last seqk key (key j) j
      · exact ⟨_, rfl⟩
      · exact ⟨_, rfl⟩
  intro q
  rw [h1, h2, keq_str, pv_succ, pv_succ]
  cases hq : seqk q (key j)
  · simp only [Bool.and_false, Bool.false_eq_true, if_false]
    exact h q
  · have := has_eq hq
    subst this
    rw [e]
    refine ⟨fun hb => ?_, fun hb => ?_⟩
    · rw [hb]
      simp only [Bool.not_true, Bool.true_and, Bool.false_and, if_true, Bool.false_eq_true, if_false]
      exact ⟨trivial, ((h _).1 hb).2⟩
    · rw [hb]
      simp only [Bool.not_false, Bool.true_and, Bool.false_and, if_true, Bool.false_eq_true, if_false]
      exact ⟨((h _).2 hb).1, trivial⟩
theorem prox_start {pre : Nat → ByteArray} {P : Nat} {key : Nat → ByteArray} {val : Nat → Nat} {S : St} (h : RanK (fun m => .str (pre m)) (fun _ => numv 13830554455654793216) P S) : Prox pre P key val 0 S sn0 := fun q => by
  have h1 := h.str q
  refine ⟨fun hb => ⟨?_, look_empty _ _ _ _⟩, fun hb => ⟨?_, look_empty _ _ _ _⟩⟩
  · rw [h1]
    unfold has at hb
    cases hl : Last.last seqk pre q P with
    | some m => rfl
    | none => rw [hl] at hb; cases hb
  · rw [h1]
    unfold has at hb
    cases hl : Last.last seqk pre q P with
    | some m => rw [hl] at hb; cases hb
    | none => rfl
end Go.Proofs.YtlmadbgpllokfaaGreatFmt
