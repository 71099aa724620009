/- FnSetTableAgreesWithSetField: walked. -/
import Derived.Test.YtlmadbgpllokfaaGreatFmtPra
import Derived.Deep.DeepCutAuto
namespace Go.Proofs.YtlmadbgpllokfaaGreatFmt
open Go.RowKit Go.Mapy Go.Tbl
set_option maxRecDepth 100000

/-- Nil, or a number that equals itself. -/
def NVS (v : Value) : Prop := v = nilw ∨ ∃ b, v = numv b ∧ SelfB b
theorem NVS.nv {v : Value} (h : NVS v) : NV v := by
  rcases h with h | ⟨b, h, _⟩
  · exact .inl h
  · exact .inr ⟨b, h⟩
theorem raw_equal_nvs (L : Option Addr) (v : Value) (w : World) (h : NVS v) : Calls Tryz.prog 35 #[.pointer L, v, v] w fun e w' => e = .returned (.bool true) ∧ w = w' := by
  rcases h with rfl | ⟨b, rfl, hb⟩
  · exact raw_equal_nil L w
  · exact raw_equal L b w hb
/-- The two trios hold the same under every text. -/
def Eqq (S1 S2 Sp1 Sp2 : St) : Prop := ∀ q : ByteArray, holds S1 (.str q) = holds S2 (.str q) ∧ holds Sp1 (.str q) = holds Sp2 (.str q) ∧ NVS (holds S1 (.str q)) ∧ NVS (holds Sp1 (.str q))
theorem eqq_step {S1 S2 Sp1 Sp2 S1' S2' Sp1' Sp2' : St} (h : Eqq S1 S2 Sp1 Sp2) {k : ByteArray} {v : Value} (hv : NVS v) {h1 h2 : Bool} (e1 : h1 = true ↔ ∃ b, holds S1 (.str k) = numv b) (e2 : h2 = true ↔ ∃ b, holds S2 (.str k) = numv b)
    (a1 : ∀ q, holds S1' q = if h1 && keq q (.str k) then v else holds S1 q) (a2 : ∀ q, holds Sp1' q = if !h1 && keq q (.str k) then v else holds Sp1 q)
    (b1 : ∀ q, holds S2' q = if h2 && keq q (.str k) then v else holds S2 q) (b2 : ∀ q, holds Sp2' q = if !h2 && keq q (.str k) then v else holds Sp2 q) : Eqq S1' S2' Sp1' Sp2' := by
  have e : h1 = h2 := by
    rw [(h k).1] at e1
    cases h1
    · cases h2
      · rfl
      · exact absurd (e1.2 (e2.1 rfl)) (by simp)
    · exact (e2.2 (e1.1 rfl)).symm
  subst e
  intro q
  obtain ⟨q1, q2, q3, q4⟩ := h q
  rw [a1, a2, b1, b2, q1, q2]
  refine ⟨rfl, rfl, ?_, ?_⟩
  · split
    · exact hv
    · rw [← q1]; exact q3
  · split
    · exact hv
    · rw [← q2]; exact q4
/-- Both tables under the same store of a text key. -/
theorem eqq_both {S1 S2 Sp1 Sp2 S1' S2' : St} (h : Eqq S1 S2 Sp1 Sp2) {k : ByteArray} {v : Value} (hv : NVS v) (a1 : ∀ q, holds S1' q = if keq q (.str k) then v else holds S1 q) (b1 : ∀ q, holds S2' q = if keq q (.str k) then v else holds S2 q) : Eqq S1' S2' Sp1 Sp2 := by
  intro q
  obtain ⟨q1, q2, q3, q4⟩ := h q
  rw [a1, b1, q1]
  refine ⟨rfl, q2, ?_, q4⟩
  split
  · exact hv
  · rw [← q1]; exact q3
theorem eqq_zero : Eqq sn0 sn0 sn0 sn0 := fun _ => ⟨rfl, rfl, .inl (look_empty _ _ _ _), .inl (look_empty _ _ _ _)⟩

/-- Two trios that lie apart. -/
def Dis3 (t m p t' m' p' : Tbs) : Prop := ∀ c, Fp3 t m p c → ¬ Fp3 t' m' p' c
theorem Dis3.turn {w : World} {t m p t2 p2 t' m' p' : Tbs} {S : St} {ks : List Value} {ix : List MapEntry} {Sm : St} {km : List Value} {im : List MapEntry} {Sp : St} {kp : List Value} {ip : List MapEntry} (h : Dis3 t m p t' m' p') (hn : ∀ c, Fp3 t2 m p2 c → Fp3 t m p c ∨ w.heap.size ≤ c) (ht : Trio w t' m' p' S ks ix Sm km im Sp kp ip) : Dis3 t2 m p2 t' m' p' := fun c h1 h2 => by
  rcases hn c h1 with h3 | h3
  · exact h c h3 h2
  · have := ht.lt h2
    omega
theorem Dis3.symm {t m p t' m' p' : Tbs} (h : Dis3 t m p t' m' p') : Dis3 t' m' p' t m p := fun c h1 h2 => h c h2 h1

/-- What stands at the start of a loop: two trios, apart, over new blocks, holding the same. -/
structure Pair2 (w0 w : World) (T1 P1 T2 P2 : Nat) (m1 m2 : Tbs) (M1 M2 : St) (k1 k2 : List Value) (i1 i2 : List MapEntry) (n1 n2 : Nat) : Prop where
  ex : ∃ (t1 p1 t2 p2 : Tbs) (S1 : St) (ks1 : List Value) (ix1 : List MapEntry) (Sp1 : St) (kp1 : List Value) (ip1 : List MapEntry) (S2 : St) (ks2 : List Value) (ix2 : List MapEntry) (Sp2 : St) (kp2 : List Value) (ip2 : List MapEntry),
    t1.T = T1 ∧ p1.T = P1 ∧ t2.T = T2 ∧ p2.T = P2 ∧ Upd (fun _ => False) w0 w ∧ (∀ c, Fp3 t1 m1 p1 c → w0.heap.size ≤ c) ∧ (∀ c, Fp3 t2 m2 p2 c → w0.heap.size ≤ c) ∧ Dis3 t1 m1 p1 t2 m2 p2 ∧
    Trio w t1 m1 p1 S1 ks1 ix1 M1 k1 i1 Sp1 kp1 ip1 ∧ Trio w t2 m2 p2 S2 ks2 ix2 M2 k2 i2 Sp2 kp2 ip2 ∧ Eqq S1 S2 Sp1 Sp2 ∧ ks1.length ≤ n1 ∧ kp1.length ≤ n2 ∧ ks2.length ≤ n1 ∧ kp2.length ≤ n2

/-- Between the two stores of one step. -/
structure Mid2 (w0 w : World) (T1 P1 T2 P2 : Nat) (m1 m2 : Tbs) (M1 M2 : St) (k1 k2 : List Value) (i1 i2 : List MapEntry) (n1 n2 : Nat) (k : ByteArray) (v : Value) : Prop where
  ex : ∃ (t1 p1 t2 p2 : Tbs) (S1 : St) (ks1 : List Value) (ix1 : List MapEntry) (Sp1 : St) (kp1 : List Value) (ip1 : List MapEntry) (S2 : St) (ks2 : List Value) (ix2 : List MapEntry) (Sp2 : St) (kp2 : List Value) (ip2 : List MapEntry), t1.T = T1 ∧ p1.T = P1 ∧ t2.T = T2 ∧ p2.T = P2 ∧ Upd (fun _ => False) w0 w ∧ (∀ c, Fp3 t1 m1 p1 c → w0.heap.size ≤ c) ∧ (∀ c, Fp3 t2 m2 p2 c → w0.heap.size ≤ c) ∧ Dis3 t1 m1 p1 t2 m2 p2 ∧ Trio w t1 m1 p1 S1 ks1 ix1 M1 k1 i1 Sp1 kp1 ip1 ∧ Trio w t2 m2 p2 S2 ks2 ix2 M2 k2 i2 Sp2 kp2 ip2 ∧
    (∃ (S0 Sp0 : St) (h1 : Bool), Eqq S0 S2 Sp0 Sp2 ∧ (h1 = true ↔ ∃ b, holds S0 (.str k) = numv b) ∧ (∀ q, holds S1 q = if h1 && keq q (.str k) then v else holds S0 q) ∧ (∀ q, holds Sp1 q = if !h1 && keq q (.str k) then v else holds Sp0 q)) ∧ ks1.length ≤ n1 + 1 ∧ kp1.length ≤ n2 + 1 ∧ ks2.length ≤ n1 ∧ kp2.length ≤ n2
structure MidR (w0 w : World) (T1 P1 T2 P2 : Nat) (m1 m2 : Tbs) (M1 M2 : St) (k1 k2 : List Value) (i1 i2 : List MapEntry) (n1 n2 : Nat) (k : ByteArray) (v : Value) : Prop where
  ex : ∃ (t1 p1 t2 p2 : Tbs) (S1 : St) (ks1 : List Value) (ix1 : List MapEntry) (Sp1 : St) (kp1 : List Value) (ip1 : List MapEntry) (S2 : St) (ks2 : List Value) (ix2 : List MapEntry) (Sp2 : St) (kp2 : List Value) (ip2 : List MapEntry), t1.T = T1 ∧ p1.T = P1 ∧ t2.T = T2 ∧ p2.T = P2 ∧ Upd (fun _ => False) w0 w ∧ (∀ c, Fp3 t1 m1 p1 c → w0.heap.size ≤ c) ∧ (∀ c, Fp3 t2 m2 p2 c → w0.heap.size ≤ c) ∧ Dis3 t1 m1 p1 t2 m2 p2 ∧ Trio w t1 m1 p1 S1 ks1 ix1 M1 k1 i1 Sp1 kp1 ip1 ∧ Trio w t2 m2 p2 S2 ks2 ix2 M2 k2 i2 Sp2 kp2 ip2 ∧
    (∃ (S0 : St), Eqq S0 S2 Sp1 Sp2 ∧ (∀ q, holds S1 q = if keq q (.str k) then v else holds S0 q)) ∧ ks1.length ≤ n1 + 1 ∧ kp1.length ≤ n2 ∧ ks2.length ≤ n1 ∧ kp2.length ≤ n2
theorem Pair2.upd {w0 w : World} {T1 P1 T2 P2 : Nat} {m1 m2 : Tbs} {M1 M2 : St} {k1 k2 : List Value} {i1 i2 : List MapEntry} {n1 n2 : Nat} (h : Pair2 w0 w T1 P1 T2 P2 m1 m2 M1 M2 k1 k2 i1 i2 n1 n2) {w' : World} (hu : Upd (fun _ => False) w w') : Pair2 w0 w' T1 P1 T2 P2 m1 m2 M1 M2 k1 k2 i1 i2 n1 n2 := by
  obtain ⟨t1, p1, t2, p2, S1, ks1, ix1, Sp1, kp1, ip1, S2, ks2, ix2, Sp2, kp2, ip2, a1, a2, a3, a4, a5, a6, a7, a8, a9, a10, a11, a12⟩ := h.ex
  exact ⟨t1, p1, t2, p2, S1, ks1, ix1, Sp1, kp1, ip1, S2, ks2, ix2, Sp2, kp2, ip2, a1, a2, a3, a4, a5.trans hu, a6, a7, a8, a9.upd hu (fun _ _ h => h), a10.upd hu (fun _ _ h => h), a11, a12⟩
theorem Mid2.upd {w0 w : World} {T1 P1 T2 P2 : Nat} {m1 m2 : Tbs} {M1 M2 : St} {k1 k2 : List Value} {i1 i2 : List MapEntry} {n1 n2 : Nat} {k : ByteArray} {v : Value} (h : Mid2 w0 w T1 P1 T2 P2 m1 m2 M1 M2 k1 k2 i1 i2 n1 n2 k v) {w' : World} (hu : Upd (fun _ => False) w w') : Mid2 w0 w' T1 P1 T2 P2 m1 m2 M1 M2 k1 k2 i1 i2 n1 n2 k v := by
  obtain ⟨t1, p1, t2, p2, S1, ks1, ix1, Sp1, kp1, ip1, S2, ks2, ix2, Sp2, kp2, ip2, a1, a2, a3, a4, a5, a6, a7, a8, a9, a10, a11⟩ := h.ex
  exact ⟨t1, p1, t2, p2, S1, ks1, ix1, Sp1, kp1, ip1, S2, ks2, ix2, Sp2, kp2, ip2, a1, a2, a3, a4, a5.trans hu, a6, a7, a8, a9.upd hu (fun _ _ h => h), a10.upd hu (fun _ _ h => h), a11⟩

theorem pair_set1 (L : Option Addr) {w0 w : World} {T1 P1 T2 P2 : Nat} {m1 m2 : Tbs} {M1 M2 : St} {k1 k2 : List Value} {i1 i2 : List MapEntry} {n1 n2 : Nat} (h : Pair2 w0 w T1 P1 T2 P2 m1 m2 M1 M2 k1 k2 i1 i2 n1 n2) (k : ByteArray) (v : Value) (isNil : Bool) (hv : Val v isNil) (hn1 : n1 ≤ 1048576) (hn2 : n2 ≤ 1048576) :
    Calls Tryz.prog 32 #[.pointer L, tabv T1, .string k, v] w fun e w' => e = .returned (.tuple #[]) ∧ Mid2 w0 w' T1 P1 T2 P2 m1 m2 M1 M2 k1 k2 i1 i2 n1 n2 k v := by
  obtain ⟨t1, p1, t2, p2, S1, ks1, ix1, Sp1, kp1, ip1, S2, ks2, ix2, Sp2, kp2, ip2, rfl, rfl, rfl, rfl, a5, a6, a7, a8, a9, a10, a11, l1, l2, l3, l4⟩ := h.ex
  obtain ⟨here, hh, C⟩ := prx_field L t1 m1 p1 S1 ks1 ix1 M1 k1 i1 Sp1 kp1 ip1 k v isNil w hv (by omega) (by omega) (a11 k).2.2.1.nv (a11 k).2.2.2.nv a9
  refine C.mono (fun e w' hs => ?_)
  obtain ⟨he, t', p', S', ks', ix', Sp', kp', ip', q1, q2, q3, q4, q5, q6, q7, q8, q9, _, _⟩ := hs
  exact ⟨he, t', p', t2, p2, S', ks', ix', Sp', kp', ip', S2, ks2, ix2, Sp2, kp2, ip2, q1, q2, rfl, rfl, a5.trans_new q3 a6, (fun c hc => by
    rcases q4 c hc with h | h
    · exact a6 c h
    · have := a5.size; omega), a7, a8.turn q4 a10, q5, a10.upd q3 (fun c hc h => a8 c h hc), ⟨S1, Sp1, here, a11, hh, q6, q7⟩, by omega, by omega, l3, l4⟩
theorem pair_set2 (L : Option Addr) {w0 w : World} {T1 P1 T2 P2 : Nat} {m1 m2 : Tbs} {M1 M2 : St} {k1 k2 : List Value} {i1 i2 : List MapEntry} {n1 n2 : Nat} {k : ByteArray} {v : Value} (h : Mid2 w0 w T1 P1 T2 P2 m1 m2 M1 M2 k1 k2 i1 i2 n1 n2 k v) (isNil : Bool) (hv : Val v isNil) (hvs : NVS v) (hn1 : n1 ≤ 1048576) (hn2 : n2 ≤ 1048576) :
    Calls Tryz.prog 39 #[.pointer L, tabv T2, .iface 78 (.string k), v] w fun e w' => e = .returned (.tuple #[]) ∧ Pair2 w0 w' T1 P1 T2 P2 m1 m2 M1 M2 k1 k2 i1 i2 (n1 + 1) (n2 + 1) := by
  obtain ⟨t1, p1, t2, p2, S1, ks1, ix1, Sp1, kp1, ip1, S2, ks2, ix2, Sp2, kp2, ip2, rfl, rfl, rfl, rfl, a5, a6, a7, a8, a9, a10, ⟨S0, Sp0, h1, b1, b2, b3, b4⟩, l1, l2, l3, l4⟩ := h.ex
  obtain ⟨here, hh, C⟩ := prx_table L t2 m2 p2 S2 ks2 ix2 M2 k2 i2 Sp2 kp2 ip2 k v isNil w hv (by omega) (by omega) (by rw [← (b1 k).1]; exact (b1 k).2.2.1.nv) (by rw [← (b1 k).2.1]; exact (b1 k).2.2.2.nv) a10
  refine C.mono (fun e w' hs => ?_)
  obtain ⟨he, t', p', S', ks', ix', Sp', kp', ip', q1, q2, q3, q4, q5, q6, q7, q8, q9, _, _⟩ := hs
  exact ⟨he, t1, p1, t', p', S1, ks1, ix1, Sp1, kp1, ip1, S', ks', ix', Sp', kp', ip', rfl, rfl, q1, q2, a5.trans_new q3 a7, a6, (fun c hc => by
    rcases q4 c hc with h | h
    · exact a7 c h
    · have := a5.size; omega), (a8.symm.turn q4 a9).symm, a9.upd q3 (fun c hc h => a8 c hc h), q5, eqq_step b1 hvs b2 hh b3 b4 q6 q7, l1, l2, by omega, by omega⟩
theorem SetKey.triot {t m p : Tbs} {S : St} {ks : List Value} {ix : List MapEntry} {Sm : St} {km : List Value} {im : List MapEntry} {Sp : St} {kp : List Value} {ip : List MapEntry} {k : Key} {v : Value} {w w' : World} {e : Ending} (H : Trio w t m p S ks ix Sm km im Sp kp ip) (h : SetKey t (tabv m.T) S ks k v w e w') :
    e = .returned (.tuple #[]) ∧ ∃ t' S' ks' ix', t'.T = t.T ∧ Upd (Fp3 t m p) w w' ∧ (∀ c, Fp3 t' m p c → Fp3 t m p c ∨ w.heap.size ≤ c) ∧ Trio w' t' m p S' ks' ix' Sm km im Sp kp ip ∧ (∀ q, holds S' q = if keq q k then v else holds S q) ∧ ks'.length ≤ ks.length + 1 := by
  obtain ⟨he, t', S', ks', ix', h1, h2, h3, h4, h5, h6, h7⟩ := h
  refine ⟨he, t', S', ks', ix', h1, h2.mono (fun c _ hc => .inl hc), fun c hc => ?_, ⟨h4, H.tm.upd h2 (fun c hc ht => H.d1 c ht hc), H.tp.upd h2 (fun c hc ht => H.d2 c ht hc), H.nx, H.d1.turn h3 H.tm, H.d2.turn h3 H.tp, H.d3⟩, h5, h7⟩
  rcases hc with hc | hc | hc
  · rcases h3 c hc with h | h
    · exact .inl (.inl h)
    · exact .inr h
  · exact .inl (.inr (.inl hc))
  · exact .inl (.inr (.inr hc))
theorem pair_raw1 {w0 w : World} {T1 P1 T2 P2 : Nat} {m1 m2 : Tbs} {M1 M2 : St} {k1 k2 : List Value} {i1 i2 : List MapEntry} {n1 n2 : Nat} (h : Pair2 w0 w T1 P1 T2 P2 m1 m2 M1 M2 k1 k2 i1 i2 n1 n2) (k : ByteArray) (v : Value) (isNil : Bool) (hv : Val v isNil) (hn1 : n1 ≤ 1048576) :
    Calls Tryz.prog 44 #[.pointer (some ⟨T1, 0, none⟩), .string k, v] w fun e w' => e = .returned (.tuple #[]) ∧ MidR w0 w' T1 P1 T2 P2 m1 m2 M1 M2 k1 k2 i1 i2 n1 n2 k v := by
  obtain ⟨t1, p1, t2, p2, S1, ks1, ix1, Sp1, kp1, ip1, S2, ks2, ix2, Sp2, kp2, ip2, rfl, rfl, rfl, rfl, a5, a6, a7, a8, a9, a10, a11, l1, l2, l3, l4⟩ := h.ex
  have C := set_string t1 (tabv m1.T) S1 ks1 ix1 k v isNil w hv (by omega) a9.tt
  refine C.mono (fun e w' hs => ?_)
  obtain ⟨he, t', S', ks', ix', q1, q3, q4, q5, q6, q7⟩ := SetKey.triot a9 (SetStr.key hs hv)
  exact ⟨he, t', p1, t2, p2, S', ks', ix', Sp1, kp1, ip1, S2, ks2, ix2, Sp2, kp2, ip2, q1, rfl, rfl, rfl, a5.trans_new q3 a6, (fun c hc => by
    rcases q4 c hc with h | h
    · exact a6 c h
    · have := a5.size; omega), a7, a8.turn q4 a10, q5, a10.upd q3 (fun c hc h => a8 c h hc), ⟨S1, a11, q6⟩, by omega, l2, l3, l4⟩
theorem pair_raw2 {w0 w : World} {T1 P1 T2 P2 : Nat} {m1 m2 : Tbs} {M1 M2 : St} {k1 k2 : List Value} {i1 i2 : List MapEntry} {n1 n2 : Nat} {k : ByteArray} {v : Value} (h : MidR w0 w T1 P1 T2 P2 m1 m2 M1 M2 k1 k2 i1 i2 n1 n2 k v) (isNil : Bool) (hv : Val v isNil) (hvs : NVS v) (hn1 : n1 ≤ 1048576) :
    Calls Tryz.prog 44 #[.pointer (some ⟨T2, 0, none⟩), .string k, v] w fun e w' => e = .returned (.tuple #[]) ∧ Pair2 w0 w' T1 P1 T2 P2 m1 m2 M1 M2 k1 k2 i1 i2 (n1 + 1) n2 := by
  obtain ⟨t1, p1, t2, p2, S1, ks1, ix1, Sp1, kp1, ip1, S2, ks2, ix2, Sp2, kp2, ip2, rfl, rfl, rfl, rfl, a5, a6, a7, a8, a9, a10, ⟨S0, b1, b2⟩, l1, l2, l3, l4⟩ := h.ex
  have C := set_string t2 (tabv m2.T) S2 ks2 ix2 k v isNil w hv (by omega) a10.tt
  refine C.mono (fun e w' hs => ?_)
  obtain ⟨he, t', S', ks', ix', q1, q3, q4, q5, q6, q7⟩ := SetKey.triot a10 (SetStr.key hs hv)
  exact ⟨he, t1, p1, t', p2, S1, ks1, ix1, Sp1, kp1, ip1, S', ks', ix', Sp2, kp2, ip2, rfl, rfl, q1, rfl, a5.trans_new q3 a7, a6, (fun c hc => by
    rcases q4 c hc with h | h
    · exact a7 c h
    · have := a5.size; omega), (a8.symm.turn q4 a9).symm, a9.upd q3 (fun c hc h => a8 c hc h), q5, eqq_both b1 hvs b2 q6, l1, l2, by omega, l4⟩
/-- The texts' values, read from both tables, from both proxies. -/
theorem pair_read {w0 w : World} {T1 P1 T2 P2 : Nat} {m1 m2 : Tbs} {M1 M2 : St} {k1 k2 : List Value} {i1 i2 : List MapEntry} {n1 n2 : Nat} (h : Pair2 w0 w T1 P1 T2 P2 m1 m2 M1 M2 k1 k2 i1 i2 n1 n2) (q : ByteArray) : ∃ v u, NVS v ∧ NVS u ∧ ∀ w', Upd (fun _ => False) w w' →
    (Calls Tryz.prog 46 #[.pointer (some ⟨T1, 0, none⟩), .string q] w' fun e w2 => e = .returned v ∧ w' = w2) ∧ (Calls Tryz.prog 46 #[.pointer (some ⟨T2, 0, none⟩), .string q] w' fun e w2 => e = .returned v ∧ w' = w2) ∧
    (Calls Tryz.prog 46 #[.pointer (some ⟨P1, 0, none⟩), .string q] w' fun e w2 => e = .returned u ∧ w' = w2) ∧ (Calls Tryz.prog 46 #[.pointer (some ⟨P2, 0, none⟩), .string q] w' fun e w2 => e = .returned u ∧ w' = w2) := by
  obtain ⟨t1, p1, t2, p2, S1, ks1, ix1, Sp1, kp1, ip1, S2, ks2, ix2, Sp2, kp2, ip2, rfl, rfl, rfl, rfl, a5, a6, a7, a8, a9, a10, a11, _⟩ := h.ex
  obtain ⟨e1, e2, e3, e4⟩ := a11 q
  refine ⟨_, _, e3, e4, fun w' hu => ?_⟩
  have b9 := a9.upd hu (fun _ _ h => h)
  have b10 := a10.upd hu (fun _ _ h => h)
  exact ⟨rget_str _ _ _ _ _ q w' b9.tt, by rw [e1]; exact rget_str _ _ _ _ _ q w' b10.tt, rget_str _ _ _ _ _ q w' b9.tp, by rw [e2]; exact rget_str _ _ _ _ _ q w' b10.tp⟩

theorem pair_start {w0 w1 w2 : World} {t1 p1 t2 p2 m1 m2 : Tbs} {M1 M2 : St} {k1 k2 : List Value} {i1 i2 : List MapEntry} (h1 : Trio w1 t1 m1 p1 sn0 [] [] M1 k1 i1 sn0 [] []) (f1 : ∀ c, Fp3 t1 m1 p1 c → w0.heap.size ≤ c) (u1 : Upd (fun _ => False) w0 w1)
    (h2 : Trio w2 t2 m2 p2 sn0 [] [] M2 k2 i2 sn0 [] []) (f2 : ∀ c, Fp3 t2 m2 p2 c → w1.heap.size ≤ c) (u2 : Upd (fun _ => False) w1 w2) : Pair2 w0 w2 t1.T p1.T t2.T p2.T m1 m2 M1 M2 k1 k2 i1 i2 0 0 :=
  ⟨t1, p1, t2, p2, sn0, [], [], sn0, [], [], sn0, [], [], sn0, [], [], rfl, rfl, rfl, rfl, u1.trans u2, f1, (fun c hc => Nat.le_trans u1.size (f2 c hc)), (fun c h h' => by have := h1.lt h; have := f2 c h'; omega), h1.upd u2 (fun _ _ h => h), h2, eqq_zero, by simp, by simp, by simp, by simp⟩

set_option maxHeartbeats 1600000 in
theorem guard_agl (aP : Option Addr) (nP cP : Nat) (aK : Option Addr) (nK cK : Nat) (aV : Option Addr) (nV cV : Nat) (aD : Option Addr) (nD cD : Nat) (aQ : Option Addr) (nQ cQ : Nat) (pre : Nat → ByteArray) (key : Nat → ByteArray) (pr : Nat → ByteArray) (w : World) (h0 : nP ≤ 9223372036854775807) (h1 : nK ≤ 9223372036854775807) (h2 : nV ≤ 9223372036854775807) (h3 : nD ≤ 9223372036854775807) (h4 : nQ ≤ 9223372036854775807) (c0 : Cells w aP nP fun j => .string (pre j)) (c1 : Cells w aK nK fun j => .string (key j)) (c4 : Cells w aQ nQ fun j => .string (pr j)) :
    Calls Tryz.prog 47 #[.slice aP nP cP, .slice aK nK cK, .slice aV nV cV, .slice aD nD cD, .slice aQ nQ cQ] w (SomeBool w) := by
  have HP := Lib.hid c0
  have HK := Lib.hid c1
  have HQ := Lib.hid c4
  clear c0 c1 c4
  go_enter Tryz.func47, Tryz.ntmps47
  by_cases hc0 : nP ≤ 1048576
  case neg =>
    go_wp2
    all_goals
      go_ret
      exact ⟨_, rfl, rfl⟩
  go_wp2
  go_loop [11, 12] (fun t i => ∃ (j : Nat) (z : Nat), j ≤ nP ∧ z ≤ 1048576 ∧ i = .int .i64 j ∧ t = .int .i64 z) (fun _ i => nP - (intOf i).toNat)
  case atStart => exact ⟨0, nP, Nat.zero_le _, by omega, rfl, by go_num⟩
  case round =>
    obtain ⟨j, z0, hj, hz, rfl, rfl⟩ := hrel
    by_cases hlt : j < nP
    · obtain ⟨b, off, rfl, hc⟩ := HP.out.one hlt
      have i1 : (0 : Int) ≤ (j : Int) := by omega
      have i2 : (j : Int) < (nP : Int) := by omega
      by_cases hk : (pre j).size ≤ 1048576
      case neg =>
        go_wp2
        all_goals
          go_ret
          exact ⟨_, rfl, rfl⟩
      by_cases hs1 : z0 + (pre j).size ≤ 1048576
      case neg =>
        go_wp2
        all_goals
          go_ret
          exact ⟨_, rfl, rfl⟩
      go_wp2
      go_round
      case rel => exact ⟨j + 1, z0 + (pre j).size, by omega, by omega, by go_num, by go_num⟩
      case measure => simp [intOf]; omega
    · obtain rfl : j = nP := by omega
      by_cases hc1 : nK ≤ 1048576
      case neg =>
        go_wp2
        all_goals
          go_ret
          exact ⟨_, rfl, rfl⟩
      by_cases hz1 : z0 + nK ≤ 1048576
      case neg =>
        go_wp2
        all_goals
          go_ret
          exact ⟨_, rfl, rfl⟩
      go_wp2
      go_loop [11, 13] (fun t i => ∃ (j : Nat) (z : Nat), j ≤ nK ∧ z ≤ 1048576 ∧ i = .int .i64 j ∧ t = .int .i64 z) (fun _ i => nK - (intOf i).toNat)
      case atStart => exact ⟨0, z0 + nK, Nat.zero_le _, by omega, rfl, by go_num⟩
      case round =>
        obtain ⟨j, z1, hj, hz, rfl, rfl⟩ := hrel
        by_cases hlt : j < nK
        · obtain ⟨b, off, rfl, hc⟩ := HK.out.one hlt
          have i1 : (0 : Int) ≤ (j : Int) := by omega
          have i2 : (j : Int) < (nK : Int) := by omega
          by_cases hk : (key j).size ≤ 1048576
          case neg =>
            go_wp2
            all_goals
              go_ret
              exact ⟨_, rfl, rfl⟩
          by_cases hs1 : z1 + (key j).size ≤ 1048576
          case neg =>
            go_wp2
            all_goals
              go_ret
              exact ⟨_, rfl, rfl⟩
          go_wp2
          go_round
          case rel => exact ⟨j + 1, z1 + (key j).size, by omega, by omega, by go_num, by go_num⟩
          case measure => simp [intOf]; omega
        · obtain rfl : j = nK := by omega
          by_cases hc2 : nV ≤ 1048576
          case neg =>
            go_wp2
            all_goals
              go_ret
              exact ⟨_, rfl, rfl⟩
          by_cases hz2 : z1 + nV ≤ 1048576
          case neg =>
            go_wp2
            all_goals
              go_ret
              exact ⟨_, rfl, rfl⟩
          by_cases hc3 : nD ≤ 1048576
          case neg =>
            go_wp2
            all_goals
              go_ret
              exact ⟨_, rfl, rfl⟩
          by_cases hz3 : z1 + nV + nD ≤ 1048576
          case neg =>
            go_wp2
            all_goals
              go_ret
              exact ⟨_, rfl, rfl⟩
          by_cases hc4 : nQ ≤ 1048576
          case neg =>
            go_wp2
            all_goals
              go_ret
              exact ⟨_, rfl, rfl⟩
          by_cases hz4 : z1 + nV + nD + nQ ≤ 1048576
          case neg =>
            go_wp2
            all_goals
              go_ret
              exact ⟨_, rfl, rfl⟩
          go_wp2
          go_loop [11, 14] (fun t i => ∃ (j : Nat) (z : Nat), j ≤ nQ ∧ z ≤ 1048576 ∧ i = .int .i64 j ∧ t = .int .i64 z) (fun _ i => nQ - (intOf i).toNat)
          case atStart => exact ⟨0, z1 + nV + nD + nQ, Nat.zero_le _, by omega, rfl, by go_num⟩
          case round =>
            obtain ⟨j, z4, hj, hz, rfl, rfl⟩ := hrel
            by_cases hlt : j < nQ
            · obtain ⟨b, off, rfl, hc⟩ := HQ.out.one hlt
              have i1 : (0 : Int) ≤ (j : Int) := by omega
              have i2 : (j : Int) < (nQ : Int) := by omega
              by_cases hk : (pr j).size ≤ 1048576
              case neg =>
                go_wp2
                all_goals
                  go_ret
                  exact ⟨_, rfl, rfl⟩
              by_cases hs1 : z4 + (pr j).size ≤ 1048576
              case neg =>
                go_wp2
                all_goals
                  go_ret
                  exact ⟨_, rfl, rfl⟩
              go_wp2
              go_round
              case rel => exact ⟨j + 1, z4 + (pr j).size, by omega, by omega, by go_num, by go_num⟩
              case measure => simp [intOf]; omega
            · obtain rfl : j = nQ := by omega
              go_wp2
              go_ret
              exact ⟨_, rfl, rfl⟩
end Go.Proofs.YtlmadbgpllokfaaGreatFmt
