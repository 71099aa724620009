/- Stores into the array part of a table: what they leave. -/
import Derived.Test.YtlmadbgpllokfaaGreatFmtNum
namespace Go.Proofs.YtlmadbgpllokfaaGreatFmt
open Go.RowKit Go.Mapy Go.Tbl
set_option maxRecDepth 100000

theorem owns_set {w : World} {base n : Nat} {e : TypeId} {g cap i : Nat} {xs : List Value} {u : Value} (h : w.ownsRow base e 1 (.slice (some ⟨g, 0, none⟩) n cap) n xs) (_ : i < n) : (w.setCell ⟨g, i, none⟩ u).ownsRow base e 1 (.slice (some ⟨g, 0, none⟩) n cap) n (xs.set i u) := by
  refine ⟨by rw [List.length_set]; exact h.1, ?_⟩
  rcases h.2 with ⟨hv, _⟩ | ⟨g', cap', cur, hv, hb, hg, h1, h2, h3, h4⟩
  · cases hv
  · cases hv
    have hB : Blk w g cur.toList e := by
      show w.heap[g]? = _
      rw [hg]
    refine .inr ⟨g, cap, (cur.toList.set i u).toArray, rfl, hb, hB.set i u, h1, h2, by simp [h3], ?_⟩
    rw [← h4, Nat.mul_one]
    exact List.take_set ..

theorem owns_cell {w : World} {base n : Nat} {e : TypeId} {g cap i : Nat} {xs : List Value} (h : w.ownsRow base e 1 (.slice (some ⟨g, 0, none⟩) n cap) n xs) (hi : i < n) : (∃ u, w.cell? ⟨g, i, none⟩ = some u) ∧ w.frozen? ⟨g, i, none⟩ = false ∧ w.cell? ⟨g, i, none⟩ = xs[i]? := by
  rcases h.2 with ⟨hv, _⟩ | ⟨g', cap', cur, hv, hb, hg, h1, h2, h3, h4⟩
  · cases hv
  · cases hv
    have hB : Blk w g cur.toList e := by
      show w.heap[g]? = _
      rw [hg]
    have hc := hB.cell i
    have hx : xs[i]? = cur.toList[i]? := by rw [← h4, Nat.mul_one, List.getElem?_take, if_pos hi]
    have hl : i < cur.toList.length := by rw [Array.length_toList, h3]; omega
    refine ⟨⟨cur.toList[i], by rw [hc, List.getElem?_eq_getElem hl]⟩, hB.free i, by rw [hc, hx]⟩

/-- The table behind a store into a cell of its array part. -/
theorem Tab.put_arr {w : World} {t : Tbs} {mt : Value} {S : St} {ks : List Value} {ix : List MapEntry} (h : Tab w t mt S ks ix) {g cap i : Nat} {v : Value} (ha : t.a = .slice (some ⟨g, 0, none⟩) S.arr.length cap) (hi : i < S.arr.length) :
    Tab (w.setCell ⟨g, i, none⟩ v) t mt { S with arr := S.arr.set i v } ks ix ∧ Upd (Fp t) w (w.setCell ⟨g, i, none⟩ v) := by
  have ne := h.T_ne
  have rn := h.row_ne
  have hag : t.a.ownBlock = some g := by rw [ha]; rfl
  have hu : Upd (fun c => c = g) w (w.setCell ⟨g, i, none⟩ v) := (Upd.refl (fun c => c = g) w).setCell ⟨g, i, none⟩ v (.inl rfl)
  refine ⟨?_, hu.mono (fun c _ (e : c = g) => .inr (.inl (by rw [hag, e])))⟩
  exact
  { tb := hu.blk h.tb (fun e => ne.2.2.2.1 (by rw [hag, e]))
    ar := by
      have h0 := h.ar
      rw [ha] at h0
      have h1 := owns_set (u := v) h0 hi
      rw [← ha] at h1
      show (w.setCell ⟨g, i, none⟩ v).ownsRow 0 49 1 t.a (S.arr.set i v).length (S.arr.set i v)
      rw [List.length_set]
      exact h1
    nm := h.nm.upd hu (fun c (hc : t.d = some c) (e : c = g) => (rn.1 g hag).2.1 (by rw [hc, e]))
    sn := h.nm.stamp h.sn hu (fun c (hc : t.d = some c) (e : c = g) => (rn.1 g hag).2.1 (by rw [hc, e]))
    st := h.st.upd hu (fun c (hc : some t.s = some c) (e : c = g) => (rn.1 g hag).1 (by rw [← e]; exact (Option.some.inj hc).symm))
    ss := h.st.stamp h.ss hu (fun c (hc : some t.s = some c) (e : c = g) => (rn.1 g hag).1 (by rw [← e]; exact (Option.some.inj hc).symm))
    ke := owns_upd h.ke hu (fun c hc (e : c = g) => h.ak g hag (by rw [hc, e]))
    im := h.im.upd hu (fun c (hc : t.i = some c) (e : c = g) => (rn.1 g hag).2.2 (by rw [hc, e]))
    kn := h.kn
    an := h.an
    sd := h.sd
    ak := h.ak
    fs := h.fs
    fn := h.fn
    fi := h.fi }

theorem Tab.tb_grown_arr {w w' : World} {t : Tbs} {mt : Value} {S : St} {ks : List Value} {ix : List MapEntry} {T : Nat} (h : Tab w t mt S ks ix) (hT : t.T = T) {o : Obj} (hg : (w.alloc o).grownBy w' t.a.ownBlock) : Blk w' T (tbl mt t) 89 :=
  hT ▸ (upd_grown hg).blk (h.tb.alloc o) h.T_ne.2.2.2.1

/-- One value more in the array part. -/
theorem Tab.push_arr {w w' : World} {t : Tbs} {mt : Value} {S : St} {ks : List Value} {ix : List MapEntry} {x v' : Value} {n T : Nat} (h : Tab w t mt S ks ix) (hT : t.T = T) {o : Obj} (hg : (w.alloc o).grownBy w' t.a.ownBlock) (hn : n = S.arr.length + 1) (hown : w'.ownsRow 0 49 1 v' n (S.arr ++ [x]))
    (hnil : v' ≠ .slice none 0 0) (hloc : v'.ownBlock = t.a.ownBlock ∨ v'.ownBlock = some (w.alloc o).heap.size) :
    Tab (w'.setCell ⟨T, 1, none⟩ v') { t with a := v' } mt { S with arr := S.arr ++ [x] } ks ix ∧ Upd (Fp t) w (w'.setCell ⟨T, 1, none⟩ v') := by
  subst hT
  have ne := h.T_ne
  have rn := h.row_ne
  have hu1 : Upd (fun c => t.a.ownBlock = some c) w w' := ((Upd.refl _ w).alloc o).trans (upd_grown hg)
  have hu : Upd (fun c => t.a.ownBlock = some c ∨ c = t.T) w (w'.setCell ⟨t.T, 1, none⟩ v') := (hu1.mono (fun _ _ h => .inl h)).setCell ⟨t.T, 1, none⟩ _ (.inl (.inr rfl))
  have hvT : v'.ownBlock ≠ some t.T := by
    rcases hloc with h1 | h1
    · rw [h1]; exact ne.2.2.2.1
    · rw [h1]; intro e; have e := Option.some.inj e; rw [World.size_alloc] at e; have := h.tb.lt; omega
  refine ⟨?_, hu.mono (fun c _ h => h.elim (fun h => .inr (.inl h)) (fun h => .inl h))⟩
  exact
  { tb := (h.tb_grown_arr rfl hg).set 1 v'
    ar := by
      show (w'.setCell ⟨t.T, 1, none⟩ v').ownsRow 0 49 1 v' (S.arr ++ [x]).length (S.arr ++ [x])
      rw [List.length_append, List.length_singleton, ← hn]
      exact owns_upd hown ((Upd.refl (fun c => c = t.T) w').setCell ⟨t.T, 1, none⟩ v' (.inl rfl)) (fun c hc e => hvT (by rw [hc, e]))
    nm := h.nm.upd hu (fun c (hc : t.d = some c) e => by
      rcases e with e | e
      · exact (rn.1 c e).2.1 hc
      · exact ne.2.1 (by rw [hc, e]))
    sn := h.nm.stamp h.sn hu (fun c (hc : t.d = some c) e => by
      rcases e with e | e
      · exact (rn.1 c e).2.1 hc
      · exact ne.2.1 (by rw [hc, e]))
    st := h.st.upd hu (fun c (hc : some t.s = some c) e => by
      have hc := Option.some.inj hc
      rcases e with e | e
      · exact (rn.1 c e).1 hc.symm
      · exact ne.1 (by rw [hc, e]))
    ss := h.st.stamp h.ss hu (fun c (hc : some t.s = some c) e => by
      have hc := Option.some.inj hc
      rcases e with e | e
      · exact (rn.1 c e).1 hc.symm
      · exact ne.1 (by rw [hc, e]))
    ke := owns_upd h.ke hu (fun c (hc : t.k.ownBlock = some c) e => by
      rcases e with e | e
      · exact h.ak c e hc
      · exact ne.2.2.2.2 (by rw [hc, e]))
    im := h.im.upd hu (fun c (hc : t.i = some c) e => by
      rcases e with e | e
      · exact (rn.1 c e).2.2 hc
      · exact ne.2.2.1 (by rw [hc, e]))
    kn := h.kn
    an := hnil
    sd := h.sd
    ak := fun b (hb : v'.ownBlock = some b) (e : t.k.ownBlock = some b) => by
      rcases hloc with h1 | h1
      · exact h.ak b (by rw [← h1]; exact hb) e
      · rw [h1] at hb
        obtain ⟨cur, hg⟩ := owns_lt h.ke e
        have := (Array.getElem?_eq_some_iff.1 hg).1
        have hb := Option.some.inj hb
        rw [World.size_alloc] at hb
        omega
    fs := h.fs
    fn := h.fn
    fi := h.fi }

/-- The blocks of a table with another array part. -/
theorem fp_arr {t : Tbs} {v : Value} {B : Nat} (hl : v.ownBlock = t.a.ownBlock ∨ ∃ b, v.ownBlock = some b ∧ B ≤ b) : ∀ c, Fp { t with a := v } c → Fp t c ∨ B ≤ c := by
  intro c hc
  rcases hc with h | h | h | h | h | h
  · exact .inl (.inl h)
  · rcases hl with hl | ⟨b, hl, hb⟩
    · exact .inl (.inr (.inl (by rw [← hl]; exact h)))
    · have h : v.ownBlock = some c := h
      rw [hl] at h
      have := Option.some.inj h
      exact .inr (by omega)
  · exact .inl (.inr (.inr (.inl h)))
  · exact .inl (.inr (.inr (.inr (.inl h))))
  · exact .inl (.inr (.inr (.inr (.inr (.inl h)))))
  · exact .inl (.inr (.inr (.inr (.inr (.inr h)))))

/-- What a store into the array part leaves. -/
def SetArr (t : Tbs) (mt : Value) (S : St) (ks : List Value) (ix : List MapEntry) (i : Nat) (v : Value) (w : World) (e : Ending) (w' : World) : Prop :=
  e = .returned (.tuple #[]) ∧ ∃ t', t'.T = t.T ∧ Upd (Fp t) w w' ∧ (∀ c, Fp t' c → Fp t c ∨ w.heap.size ≤ c) ∧ Tab w' t' mt { S with arr := setPad nilw S.arr i v } ks ix

set_option maxHeartbeats 1600000 in
theorem int_in (t : Tbs) (mt : Value) (S : St) (ks : List Value) (ix : List MapEntry) (i : Nat) (hi : i < 67108863) (ty : TypeId) (x : Value) (w : World) (h1 : (Value.iface ty x).oneCell' = true) (_ : S.arr.length ≤ 67108864) (hc : i < S.arr.length) (h : Tab w t mt S ks ix) :
    Calls Tryz.prog 85 #[.pointer (some ⟨t.T, 0, none⟩), .int .i64 ((i : Int) + 1), .iface ty x] w (SetArr t mt S ks ix i (.iface ty x) w) := by
  obtain ⟨g, cap, ha⟩ : ∃ g cap, t.a = .slice (some ⟨g, 0, none⟩) S.arr.length cap := by
    rcases h.ar.2 with ⟨h0, _⟩ | ⟨g, cap, cur, h0, _⟩
    · exact absurd h0 h.an
    · exact ⟨g, cap, h0⟩
  have hw1 : IntKind.i64.wrap ((i : Int) + 1 - 1) = (i : Int) := by rw [IntWalk.i64_in _ (by omega)]; omega
  have H := Lib.hid h
  have H1 := Lib.hid h1
  clear h h1
  have U0 := Lib.hid (Upd.refl (Fp t) w)
  go_enter Tryz.func85, Tryz.ntmps85
  have c1 := H.out.tb.at (o := 1) rfl
  rw [ha] at c1
  have own := H.out.ar
  rw [ha] at own
  obtain ⟨⟨u, cu⟩, fu, _⟩ := owns_cell own hc
  have HA := Lib.hid ha
  clear own ha
  go_wp2
  go_end0
  obtain ⟨hp, hu⟩ := H.out.put_arr (v := .iface ty x) HA.out hc
  rw [show S.arr.set i (.iface ty x) = setPad nilw S.arr i (.iface ty x) by unfold setPad; rw [if_pos hc]] at hp
  exact ⟨rfl, t, rfl, U0.out.trans hu, fun c h => .inl h, hp⟩

set_option maxHeartbeats 1600000 in
theorem int_end (t : Tbs) (mt : Value) (S : St) (ks : List Value) (ix : List MapEntry) (i : Nat) (hi : i < 67108863) (ty : TypeId) (x : Value) (w : World) (h1 : (Value.iface ty x).oneCell' = true) (hl : S.arr.length ≤ 67108864) (hc : i = S.arr.length) (h : Tab w t mt S ks ix) :
    Calls Tryz.prog 85 #[.pointer (some ⟨t.T, 0, none⟩), .int .i64 ((i : Int) + 1), .iface ty x] w (SetArr t mt S ks ix i (.iface ty x) w) := by
  obtain ⟨g, cap, ha⟩ : ∃ g cap, t.a = .slice (some ⟨g, 0, none⟩) S.arr.length cap := by
    rcases h.ar.2 with ⟨h0, _⟩ | ⟨g, cap, cur, h0, _⟩
    · exact absurd h0 h.an
    · exact ⟨g, cap, h0⟩
  have hw1 : IntKind.i64.wrap ((i : Int) + 1 - 1) = (i : Int) := by rw [IntWalk.i64_in _ (by omega)]; omega
  have H := Lib.hid h
  have H1 := Lib.hid h1
  clear h h1
  subst hc
  obtain ⟨i0, hi0, hz0, hz1, hz2⟩ := info_parts infoLV
  have U0 := Lib.hid (Upd.refl (Fp t) w)
  go_enter Tryz.func85, Tryz.ntmps85
  have c1 := H.out.tb.at (o := 1) rfl
  rw [ha] at c1
  have lt := H.out.tb.lt
  have own : w.ownsRow 0 49 1 (.slice (some ⟨g, 0, none⟩) S.arr.length cap) S.arr.length S.arr := by
    have h0 := H.out.ar
    rw [ha] at h0
    simpa using h0
  have OWN := Lib.hid own
  clear own
  have HA := Lib.hid ha
  clear ha
  go_wp2_with (at_builtin; refine wpList_append_own_at _ rfl _ _ 84 rfl 0 49 i0 .nilIface 1 16 Tryz.underlying84 hi0 hz0 hz1 hz2 rfl (by decide) _ _ _ rfl (OWN.out.alloc _) ⟨_, 0, none⟩ 1 1 [.iface ty x] rfl rfl (cell_one_new _ _ _) (by intro u hu; simp at hu; subst hu; first | exact H1.out | rfl) (by unfold maxLen; omega) (by omega) (Nat.zero_le _) ?_; intro v' w4 hown hgrow hnil hloc; have OW4 := Lib.hid hown; have GR := Lib.hid hgrow; have LO := Lib.hid (show v'.ownBlock = (Value.slice (some ⟨g, 0, none⟩) (S.arr.length) cap).ownBlock ∨ v'.ownBlock = some (w.alloc (.cells #[.iface ty x] 49)).heap.size from hloc); have hbx : Blk w4 t.T (tbl mt t) 89 := H.out.tb_grown_arr rfl (by rw [HA.out]; exact GR.out); have c1x := hbx.at (o := 1) rfl; have f1x := hbx.free 1; clear hnil hloc hgrow hbx; obtain ⟨g2, cap2, hv2⟩ := row_some hown (by omega); have HV2 := Lib.hid hv2; clear hown; rw [hv2]; clear hv2)
  go_end0
  obtain ⟨hp, hu⟩ := H.out.push_arr (x := .iface ty x) rfl (by rw [HA.out]; exact GR.out) rfl OW4.out (fun e => by rw [HV2.out] at e; cases e) (by rw [HA.out]; exact LO.out)
  rw [HV2.out] at hp hu
  rw [show S.arr ++ [Value.iface ty x] = setPad nilw S.arr S.arr.length (.iface ty x) by unfold setPad; rw [if_neg (by omega), Nat.sub_self, List.replicate_zero, List.append_nil]] at hp
  refine ⟨rfl, { t with a := .slice (some ⟨g2, 0, none⟩) (S.arr.length + 1) cap2 }, rfl, U0.out.trans hu, fp_arr ?_, hp⟩
  have lo := LO.out
  rw [HV2.out] at lo
  rcases lo with lo | lo
  · exact .inl (by rw [HA.out]; exact lo)
  · exact .inr ⟨_, lo, by rw [World.size_alloc]; have := U0.out.size; omega⟩

set_option maxHeartbeats 1600000 in
theorem int_pad (t : Tbs) (mt : Value) (S : St) (ks : List Value) (ix : List MapEntry) (i : Nat) (hi : i < 67108863) (ty : TypeId) (x : Value) (w : World) (h1 : (Value.iface ty x).oneCell' = true) (hl : S.arr.length ≤ 67108864) (hc : S.arr.length < i) (h : Tab w t mt S ks ix) :
    Calls Tryz.prog 85 #[.pointer (some ⟨t.T, 0, none⟩), .int .i64 ((i : Int) + 1), .iface ty x] w (SetArr t mt S ks ix i (.iface ty x) w) := by
  obtain ⟨g, cap, ha⟩ : ∃ g cap, t.a = .slice (some ⟨g, 0, none⟩) S.arr.length cap := by
    rcases h.ar.2 with ⟨h0, _⟩ | ⟨g, cap, cur, h0, _⟩
    · exact absurd h0 h.an
    · exact ⟨g, cap, h0⟩
  have hw1 : IntKind.i64.wrap ((i : Int) + 1 - 1) = (i : Int) := by rw [IntWalk.i64_in _ (by omega)]; omega
  have H := Lib.hid h
  have H1 := Lib.hid h1
  clear h h1
  obtain ⟨i0, hi0, hz0, hz1, hz2⟩ := info_parts infoLV
  have hw2 : IntKind.i64.wrap ((i : Int) - (S.arr.length : Int)) = (i : Int) - (S.arr.length : Int) := IntWalk.i64_in _ (by omega)
  have U0 := Lib.hid (Upd.refl (Fp t) w)
  go_enter Tryz.func85, Tryz.ntmps85
  have c1 := H.out.tb.at (o := 1) rfl
  rw [ha] at c1
  have hd1 : decide ((S.arr.length : Int) < (i : Int)) = true := decide_eq_true (by omega)
  have hd2 : ((i : Int) == (S.arr.length : Int)) = false := by rw [beq_eq_false_iff_ne]; omega
  have HA := Lib.hid ha
  clear ha
  go_wp2_with fail
  clear c1
  go_loopw [8] (fun j wr => ∃ (m : Nat) (tm : Tbs) (gm capm : Nat), m ≤ i - S.arr.length ∧ j = .int .i64 m ∧ Tab wr tm mt { S with arr := S.arr ++ List.replicate m nilw } ks ix ∧ tm.T = t.T ∧ tm.a = .slice (some ⟨gm, 0, none⟩) (S.arr.length + m) capm ∧ Upd (Fp t) w wr ∧ ∀ c, Fp tm c → Fp t c ∨ w.heap.size ≤ c) (fun j _ => i - S.arr.length - (intOf j).toNat)
  case atStart => exact ⟨0, t, g, cap, Nat.zero_le _, rfl, by rw [List.replicate_zero, List.append_nil]; exact H.out, rfl, HA.out, U0.out, fun c h => .inl h⟩
  case round =>
    obtain ⟨m, tm, gm, capm, hm, rfl, htm, hT, ham, hum, hfm⟩ := hrel
    have HM := Lib.hid htm
    have UM := Lib.hid hum
    have FM := Lib.hid hfm
    have c1 : wr.cell? ⟨t.T, 1, none⟩ = some tm.a := by rw [← hT]; exact htm.tb.at (o := 1) rfl
    rw [ham] at c1
    have lt : t.T < wr.heap.size := by rw [← hT]; exact htm.tb.lt
    have own : wr.ownsRow 0 49 1 (.slice (some ⟨gm, 0, none⟩) (S.arr.length + m) capm) (S.arr.length + m) (S.arr ++ List.replicate m nilw) := by
      have h0 := htm.ar
      rw [ham] at h0
      simpa using h0
    have OWN := Lib.hid own
    have HAM := Lib.hid ham
    have hTT := Lib.hid hT
    clear own htm hT ham hum hfm U0 H
    by_cases hmi : m < i - S.arr.length
    · have hmi2 : (m : Int) < (i : Int) - (S.arr.length : Int) := by omega
      go_wp2_with (at_builtin; refine wpList_append_own_at _ rfl _ _ 84 rfl 0 49 i0 .nilIface 1 16 Tryz.underlying84 hi0 hz0 hz1 hz2 rfl (by decide) _ _ _ rfl (OWN.out.alloc _) ⟨_, 0, none⟩ 1 1 [.iface 69 (.int .u8 0)] rfl rfl (cell_one_new _ _ _) (by intro u hu; simp at hu; subst hu; first | exact H1.out | rfl) (by unfold maxLen; omega) (by omega) (Nat.zero_le _) ?_; intro v' w4 hown hgrow hnil hloc; have OW4 := Lib.hid hown; have GR := Lib.hid hgrow; have LO := Lib.hid (show v'.ownBlock = (Value.slice (some ⟨gm, 0, none⟩) (S.arr.length + m) capm).ownBlock ∨ v'.ownBlock = some (wr.alloc (.cells #[.iface 69 (.int .u8 0)] 49)).heap.size from hloc); have hbx : Blk w4 t.T (tbl mt tm) 89 := HM.out.tb_grown_arr hTT.out (by rw [HAM.out]; exact GR.out); have c1x := hbx.at (o := 1) rfl; have f1x := hbx.free 1; clear hnil hloc hgrow hbx; obtain ⟨g2, cap2, hv2⟩ := row_some hown (by omega); have HV2 := Lib.hid hv2; clear hown; rw [hv2]; clear hv2)
      obtain ⟨hp, hu⟩ := HM.out.push_arr (x := nilw) hTT.out (by rw [HAM.out]; exact GR.out) (by simp) OW4.out (fun e => by rw [HV2.out] at e; cases e) (by rw [HAM.out]; exact LO.out)
      rw [HV2.out] at hp hu
      have HP := Lib.hid hp
      have HU := Lib.hid (upd_more UM.out hu (fun c _ h => FM.out c h))
      have lo := LO.out
      rw [HV2.out] at lo
      have hsz := UM.out.size
      have HF := Lib.hid (show ∀ c, Fp { tm with a := .slice (some ⟨g2, 0, none⟩) (S.arr.length + m + 1) cap2 } c → Fp t c ∨ w.heap.size ≤ c from fun c h => by
        rcases fp_arr (t := tm) (B := wr.heap.size) (by
          rcases lo with lo | lo
          · exact .inl (by rw [HAM.out]; exact lo)
          · exact .inr ⟨_, lo, by rw [World.size_alloc]; omega⟩) c h with h | h
        · exact FM.out c h
        · exact .inr (by omega))
      clear hp hu lo
      go_roundw
      case rel => exact ⟨m + 1, { tm with a := .slice (some ⟨g2, 0, none⟩) (S.arr.length + m + 1) cap2 }, g2, cap2, by omega, by go_num, by have := HP.out; rw [List.append_assoc, ← List.replicate_succ'] at this; exact this, hTT.out, rfl, HU.out, HF.out⟩
      case measure => simp [intOf]; omega
    · have hmi3 : ¬ (m : Int) < (i : Int) - (S.arr.length : Int) := by omega
      have hm2 : S.arr.length + m = i := by omega
      rw [hm2] at c1 OWN HAM
      go_wp2_with (at_builtin; refine wpList_append_own_at _ rfl _ _ 84 rfl 0 49 i0 .nilIface 1 16 Tryz.underlying84 hi0 hz0 hz1 hz2 rfl (by decide) _ _ _ rfl (OWN.out.alloc _) ⟨_, 0, none⟩ 1 1 [.iface ty x] rfl rfl (cell_one_new _ _ _) (by intro u hu; simp at hu; subst hu; first | exact H1.out | rfl) (by unfold maxLen; omega) (by omega) (Nat.zero_le _) ?_; intro v' w4 hown hgrow hnil hloc; have OW4 := Lib.hid hown; have GR := Lib.hid hgrow; have LO := Lib.hid (show v'.ownBlock = (Value.slice (some ⟨gm, 0, none⟩) (i) capm).ownBlock ∨ v'.ownBlock = some (wr.alloc (.cells #[.iface ty x] 49)).heap.size from hloc); have hbx : Blk w4 t.T (tbl mt tm) 89 := HM.out.tb_grown_arr hTT.out (by rw [HAM.out]; exact GR.out); have c1x := hbx.at (o := 1) rfl; have f1x := hbx.free 1; clear hnil hloc hgrow hbx; obtain ⟨g2, cap2, hv2⟩ := row_some hown (by omega); have HV2 := Lib.hid hv2; clear hown; rw [hv2]; clear hv2)
      go_end0
      obtain ⟨hp, hu⟩ := HM.out.push_arr (x := .iface ty x) hTT.out (by rw [HAM.out]; exact GR.out) (by simp; omega) OW4.out (fun e => by rw [HV2.out] at e; cases e) (by rw [HAM.out]; exact LO.out)
      rw [HV2.out] at hp hu
      rw [show S.arr ++ List.replicate m nilw ++ [Value.iface ty x] = setPad nilw S.arr i (.iface ty x) by unfold setPad; rw [if_neg (by omega), show i - S.arr.length = m by omega]] at hp
      have lo := LO.out
      rw [HV2.out] at lo
      have hsz := UM.out.size
      refine ⟨rfl, { tm with a := .slice (some ⟨g2, 0, none⟩) (i + 1) cap2 }, hTT.out, upd_more UM.out hu (fun c _ h => FM.out c h), fun c h => ?_, hp⟩
      rcases fp_arr (t := tm) (B := wr.heap.size) (by
        rcases lo with lo | lo
        · exact .inl (by rw [HAM.out]; exact lo)
        · exact .inr ⟨_, lo, by rw [World.size_alloc]; omega⟩) c h with h | h
      · exact FM.out c h
      · exact .inr (by omega)

set_option maxHeartbeats 1600000 in
theorem num_in (t : Tbs) (mt : Value) (S : St) (ks : List Value) (ix : List MapEntry) (i : Nat) (b : Nat) (hb : Fl.akey b = some (i + 1)) (ty : TypeId) (x : Value) (w : World) (h1 : (Value.iface ty x).oneCell' = true) (_ : S.arr.length ≤ 67108864) (hc : i < S.arr.length) (h : Tab w t mt S ks ix) :
    Calls Tryz.prog 77 #[.pointer (some ⟨t.T, 0, none⟩), .iface 53 (.float .f64 b), .iface ty x] w (SetArr t mt S ks ix i (.iface ty x) w) := by
  obtain ⟨g, cap, ha⟩ : ∃ g cap, t.a = .slice (some ⟨g, 0, none⟩) S.arr.length cap := by
    rcases h.ar.2 with ⟨h0, _⟩ | ⟨g, cap, cur, h0, _⟩
    · exact absurd h0 h.an
    · exact ⟨g, cap, h0⟩
  have hi : i < 67108863 := by have := Fl.akey_some hb; omega
  have hcv : ∀ w, (convert 53 3 (.float .f64 b)).run Tryz.prog w = .ok (.int .i64 ((i : Int) + 1)) w := fun w => run_convert_float_int _ _ _ _ _ b _ (by rw [Tryz.underlying53]; rfl) Tryz.underlying3 (by rw [Fl.key_val hb]; simp)
  have hw1 : IntKind.i64.wrap ((i : Int) + 1 - 1) = (i : Int) := by rw [IntWalk.i64_in _ (by omega)]; omega
  have H := Lib.hid h
  have H1 := Lib.hid h1
  clear h h1
  have HB := Lib.hid hb
  clear hb
  go_enter Tryz.func77, Tryz.ntmps77
  go_wp2_with fail
  refine (is_akey b _).mono ?_
  rintro e w1 ⟨n, rfl, hwn⟩
  rw [HB.out]
  have U0 := Lib.hid (show Upd (Fp t) w w1 by rw [hwn]; exact (Upd.refl _ _).drewN n)
  have H := Lib.hid (show Tab w1 t mt S ks ix by rw [hwn]; exact H.out.upd ((Upd.refl (fun _ => False) w).drewN n) (fun _ _ h => h))
  clear hwn
  have c1 := H.out.tb.at (o := 1) rfl
  rw [ha] at c1
  have own := H.out.ar
  rw [ha] at own
  obtain ⟨⟨u, cu⟩, fu, _⟩ := owns_cell own hc
  have HA := Lib.hid ha
  clear own ha
  go_wp2
  go_end0
  obtain ⟨hp, hu⟩ := H.out.put_arr (v := .iface ty x) HA.out hc
  rw [show S.arr.set i (.iface ty x) = setPad nilw S.arr i (.iface ty x) by unfold setPad; rw [if_pos hc]] at hp
  exact ⟨rfl, t, rfl, U0.out.trans hu, fun c h => .inl h, hp⟩

set_option maxHeartbeats 1600000 in
theorem num_end (t : Tbs) (mt : Value) (S : St) (ks : List Value) (ix : List MapEntry) (i : Nat) (b : Nat) (hb : Fl.akey b = some (i + 1)) (ty : TypeId) (x : Value) (w : World) (h1 : (Value.iface ty x).oneCell' = true) (hl : S.arr.length ≤ 67108864) (hc : i = S.arr.length) (h : Tab w t mt S ks ix) :
    Calls Tryz.prog 77 #[.pointer (some ⟨t.T, 0, none⟩), .iface 53 (.float .f64 b), .iface ty x] w (SetArr t mt S ks ix i (.iface ty x) w) := by
  obtain ⟨g, cap, ha⟩ : ∃ g cap, t.a = .slice (some ⟨g, 0, none⟩) S.arr.length cap := by
    rcases h.ar.2 with ⟨h0, _⟩ | ⟨g, cap, cur, h0, _⟩
    · exact absurd h0 h.an
    · exact ⟨g, cap, h0⟩
  have hi : i < 67108863 := by have := Fl.akey_some hb; omega
  have hcv : ∀ w, (convert 53 3 (.float .f64 b)).run Tryz.prog w = .ok (.int .i64 ((i : Int) + 1)) w := fun w => run_convert_float_int _ _ _ _ _ b _ (by rw [Tryz.underlying53]; rfl) Tryz.underlying3 (by rw [Fl.key_val hb]; simp)
  have hw1 : IntKind.i64.wrap ((i : Int) + 1 - 1) = (i : Int) := by rw [IntWalk.i64_in _ (by omega)]; omega
  have H := Lib.hid h
  have H1 := Lib.hid h1
  clear h h1
  subst hc
  obtain ⟨i0, hi0, hz0, hz1, hz2⟩ := info_parts infoLV
  have HB := Lib.hid hb
  clear hb
  go_enter Tryz.func77, Tryz.ntmps77
  go_wp2_with fail
  refine (is_akey b _).mono ?_
  rintro e w1 ⟨n, rfl, hwn⟩
  rw [HB.out]
  have U0 := Lib.hid (show Upd (Fp t) w w1 by rw [hwn]; exact (Upd.refl _ _).drewN n)
  have H := Lib.hid (show Tab w1 t mt S ks ix by rw [hwn]; exact H.out.upd ((Upd.refl (fun _ => False) w).drewN n) (fun _ _ h => h))
  clear hwn
  have c1 := H.out.tb.at (o := 1) rfl
  rw [ha] at c1
  have lt := H.out.tb.lt
  have own : w1.ownsRow 0 49 1 (.slice (some ⟨g, 0, none⟩) S.arr.length cap) S.arr.length S.arr := by
    have h0 := H.out.ar
    rw [ha] at h0
    simpa using h0
  have OWN := Lib.hid own
  clear own
  have HA := Lib.hid ha
  clear ha
  go_wp2_with (at_builtin; refine wpList_append_own_at _ rfl _ _ 84 rfl 0 49 i0 .nilIface 1 16 Tryz.underlying84 hi0 hz0 hz1 hz2 rfl (by decide) _ _ _ rfl (OWN.out.alloc _) ⟨_, 0, none⟩ 1 1 [.iface ty x] rfl rfl (cell_one_new _ _ _) (by intro u hu; simp at hu; subst hu; first | exact H1.out | rfl) (by unfold maxLen; omega) (by omega) (Nat.zero_le _) ?_; intro v' w4 hown hgrow hnil hloc; have OW4 := Lib.hid hown; have GR := Lib.hid hgrow; have LO := Lib.hid (show v'.ownBlock = (Value.slice (some ⟨g, 0, none⟩) (S.arr.length) cap).ownBlock ∨ v'.ownBlock = some (w1.alloc (.cells #[.iface ty x] 49)).heap.size from hloc); have hbx : Blk w4 t.T (tbl mt t) 89 := H.out.tb_grown_arr rfl (by rw [HA.out]; exact GR.out); have c1x := hbx.at (o := 1) rfl; have f1x := hbx.free 1; clear hnil hloc hgrow hbx; obtain ⟨g2, cap2, hv2⟩ := row_some hown (by omega); have HV2 := Lib.hid hv2; clear hown; rw [hv2]; clear hv2)
  go_end0
  obtain ⟨hp, hu⟩ := H.out.push_arr (x := .iface ty x) rfl (by rw [HA.out]; exact GR.out) rfl OW4.out (fun e => by rw [HV2.out] at e; cases e) (by rw [HA.out]; exact LO.out)
  rw [HV2.out] at hp hu
  rw [show S.arr ++ [Value.iface ty x] = setPad nilw S.arr S.arr.length (.iface ty x) by unfold setPad; rw [if_neg (by omega), Nat.sub_self, List.replicate_zero, List.append_nil]] at hp
  refine ⟨rfl, { t with a := .slice (some ⟨g2, 0, none⟩) (S.arr.length + 1) cap2 }, rfl, U0.out.trans hu, fp_arr ?_, hp⟩
  have lo := LO.out
  rw [HV2.out] at lo
  rcases lo with lo | lo
  · exact .inl (by rw [HA.out]; exact lo)
  · exact .inr ⟨_, lo, by rw [World.size_alloc]; have := U0.out.size; omega⟩

set_option maxHeartbeats 1600000 in
theorem num_pad (t : Tbs) (mt : Value) (S : St) (ks : List Value) (ix : List MapEntry) (i : Nat) (b : Nat) (hb : Fl.akey b = some (i + 1)) (ty : TypeId) (x : Value) (w : World) (h1 : (Value.iface ty x).oneCell' = true) (hl : S.arr.length ≤ 67108864) (hc : S.arr.length < i) (h : Tab w t mt S ks ix) :
    Calls Tryz.prog 77 #[.pointer (some ⟨t.T, 0, none⟩), .iface 53 (.float .f64 b), .iface ty x] w (SetArr t mt S ks ix i (.iface ty x) w) := by
  obtain ⟨g, cap, ha⟩ : ∃ g cap, t.a = .slice (some ⟨g, 0, none⟩) S.arr.length cap := by
    rcases h.ar.2 with ⟨h0, _⟩ | ⟨g, cap, cur, h0, _⟩
    · exact absurd h0 h.an
    · exact ⟨g, cap, h0⟩
  have hi : i < 67108863 := by have := Fl.akey_some hb; omega
  have hcv : ∀ w, (convert 53 3 (.float .f64 b)).run Tryz.prog w = .ok (.int .i64 ((i : Int) + 1)) w := fun w => run_convert_float_int _ _ _ _ _ b _ (by rw [Tryz.underlying53]; rfl) Tryz.underlying3 (by rw [Fl.key_val hb]; simp)
  have hw1 : IntKind.i64.wrap ((i : Int) + 1 - 1) = (i : Int) := by rw [IntWalk.i64_in _ (by omega)]; omega
  have H := Lib.hid h
  have H1 := Lib.hid h1
  clear h h1
  obtain ⟨i0, hi0, hz0, hz1, hz2⟩ := info_parts infoLV
  have hw2 : IntKind.i64.wrap ((i : Int) - (S.arr.length : Int)) = (i : Int) - (S.arr.length : Int) := IntWalk.i64_in _ (by omega)
  have HB := Lib.hid hb
  clear hb
  go_enter Tryz.func77, Tryz.ntmps77
  go_wp2_with fail
  refine (is_akey b _).mono ?_
  rintro e w1 ⟨n, rfl, hwn⟩
  rw [HB.out]
  have U0 := Lib.hid (show Upd (Fp t) w w1 by rw [hwn]; exact (Upd.refl _ _).drewN n)
  have H := Lib.hid (show Tab w1 t mt S ks ix by rw [hwn]; exact H.out.upd ((Upd.refl (fun _ => False) w).drewN n) (fun _ _ h => h))
  clear hwn
  have c1 := H.out.tb.at (o := 1) rfl
  rw [ha] at c1
  have hd1 : decide ((S.arr.length : Int) < (i : Int)) = true := decide_eq_true (by omega)
  have hd2 : ((i : Int) == (S.arr.length : Int)) = false := by rw [beq_eq_false_iff_ne]; omega
  have HA := Lib.hid ha
  clear ha
  go_wp2_with fail
  clear c1
  go_loopw [9] (fun j wr => ∃ (m : Nat) (tm : Tbs) (gm capm : Nat), m ≤ i - S.arr.length ∧ j = .int .i64 m ∧ Tab wr tm mt { S with arr := S.arr ++ List.replicate m nilw } ks ix ∧ tm.T = t.T ∧ tm.a = .slice (some ⟨gm, 0, none⟩) (S.arr.length + m) capm ∧ Upd (Fp t) w wr ∧ ∀ c, Fp tm c → Fp t c ∨ w.heap.size ≤ c) (fun j _ => i - S.arr.length - (intOf j).toNat)
  case atStart => exact ⟨0, t, g, cap, Nat.zero_le _, rfl, by rw [List.replicate_zero, List.append_nil]; exact H.out, rfl, HA.out, U0.out, fun c h => .inl h⟩
  case round =>
    obtain ⟨m, tm, gm, capm, hm, rfl, htm, hT, ham, hum, hfm⟩ := hrel
    have HM := Lib.hid htm
    have UM := Lib.hid hum
    have FM := Lib.hid hfm
    have c1 : wr.cell? ⟨t.T, 1, none⟩ = some tm.a := by rw [← hT]; exact htm.tb.at (o := 1) rfl
    rw [ham] at c1
    have lt : t.T < wr.heap.size := by rw [← hT]; exact htm.tb.lt
    have own : wr.ownsRow 0 49 1 (.slice (some ⟨gm, 0, none⟩) (S.arr.length + m) capm) (S.arr.length + m) (S.arr ++ List.replicate m nilw) := by
      have h0 := htm.ar
      rw [ham] at h0
      simpa using h0
    have OWN := Lib.hid own
    have HAM := Lib.hid ham
    have hTT := Lib.hid hT
    clear own htm hT ham hum hfm U0 H
    by_cases hmi : m < i - S.arr.length
    · have hmi2 : (m : Int) < (i : Int) - (S.arr.length : Int) := by omega
      go_wp2_with (at_builtin; refine wpList_append_own_at _ rfl _ _ 84 rfl 0 49 i0 .nilIface 1 16 Tryz.underlying84 hi0 hz0 hz1 hz2 rfl (by decide) _ _ _ rfl (OWN.out.alloc _) ⟨_, 0, none⟩ 1 1 [.iface 69 (.int .u8 0)] rfl rfl (cell_one_new _ _ _) (by intro u hu; simp at hu; subst hu; first | exact H1.out | rfl) (by unfold maxLen; omega) (by omega) (Nat.zero_le _) ?_; intro v' w4 hown hgrow hnil hloc; have OW4 := Lib.hid hown; have GR := Lib.hid hgrow; have LO := Lib.hid (show v'.ownBlock = (Value.slice (some ⟨gm, 0, none⟩) (S.arr.length + m) capm).ownBlock ∨ v'.ownBlock = some (wr.alloc (.cells #[.iface 69 (.int .u8 0)] 49)).heap.size from hloc); have hbx : Blk w4 t.T (tbl mt tm) 89 := HM.out.tb_grown_arr hTT.out (by rw [HAM.out]; exact GR.out); have c1x := hbx.at (o := 1) rfl; have f1x := hbx.free 1; clear hnil hloc hgrow hbx; obtain ⟨g2, cap2, hv2⟩ := row_some hown (by omega); have HV2 := Lib.hid hv2; clear hown; rw [hv2]; clear hv2)
      obtain ⟨hp, hu⟩ := HM.out.push_arr (x := nilw) hTT.out (by rw [HAM.out]; exact GR.out) (by simp) OW4.out (fun e => by rw [HV2.out] at e; cases e) (by rw [HAM.out]; exact LO.out)
      rw [HV2.out] at hp hu
      have HP := Lib.hid hp
      have HU := Lib.hid (upd_more UM.out hu (fun c _ h => FM.out c h))
      have lo := LO.out
      rw [HV2.out] at lo
      have hsz := UM.out.size
      have HF := Lib.hid (show ∀ c, Fp { tm with a := .slice (some ⟨g2, 0, none⟩) (S.arr.length + m + 1) cap2 } c → Fp t c ∨ w.heap.size ≤ c from fun c h => by
        rcases fp_arr (t := tm) (B := wr.heap.size) (by
          rcases lo with lo | lo
          · exact .inl (by rw [HAM.out]; exact lo)
          · exact .inr ⟨_, lo, by rw [World.size_alloc]; omega⟩) c h with h | h
        · exact FM.out c h
        · exact .inr (by omega))
      clear hp hu lo
      go_roundw
      case rel => exact ⟨m + 1, { tm with a := .slice (some ⟨g2, 0, none⟩) (S.arr.length + m + 1) cap2 }, g2, cap2, by omega, by go_num, by have := HP.out; rw [List.append_assoc, ← List.replicate_succ'] at this; exact this, hTT.out, rfl, HU.out, HF.out⟩
      case measure => simp [intOf]; omega
    · have hmi3 : ¬ (m : Int) < (i : Int) - (S.arr.length : Int) := by omega
      have hm2 : S.arr.length + m = i := by omega
      rw [hm2] at c1 OWN HAM
      go_wp2_with (at_builtin; refine wpList_append_own_at _ rfl _ _ 84 rfl 0 49 i0 .nilIface 1 16 Tryz.underlying84 hi0 hz0 hz1 hz2 rfl (by decide) _ _ _ rfl (OWN.out.alloc _) ⟨_, 0, none⟩ 1 1 [.iface ty x] rfl rfl (cell_one_new _ _ _) (by intro u hu; simp at hu; subst hu; first | exact H1.out | rfl) (by unfold maxLen; omega) (by omega) (Nat.zero_le _) ?_; intro v' w4 hown hgrow hnil hloc; have OW4 := Lib.hid hown; have GR := Lib.hid hgrow; have LO := Lib.hid (show v'.ownBlock = (Value.slice (some ⟨gm, 0, none⟩) (i) capm).ownBlock ∨ v'.ownBlock = some (wr.alloc (.cells #[.iface ty x] 49)).heap.size from hloc); have hbx : Blk w4 t.T (tbl mt tm) 89 := HM.out.tb_grown_arr hTT.out (by rw [HAM.out]; exact GR.out); have c1x := hbx.at (o := 1) rfl; have f1x := hbx.free 1; clear hnil hloc hgrow hbx; obtain ⟨g2, cap2, hv2⟩ := row_some hown (by omega); have HV2 := Lib.hid hv2; clear hown; rw [hv2]; clear hv2)
      go_end0
      obtain ⟨hp, hu⟩ := HM.out.push_arr (x := .iface ty x) hTT.out (by rw [HAM.out]; exact GR.out) (by simp; omega) OW4.out (fun e => by rw [HV2.out] at e; cases e) (by rw [HAM.out]; exact LO.out)
      rw [HV2.out] at hp hu
      rw [show S.arr ++ List.replicate m nilw ++ [Value.iface ty x] = setPad nilw S.arr i (.iface ty x) by unfold setPad; rw [if_neg (by omega), show i - S.arr.length = m by omega]] at hp
      have lo := LO.out
      rw [HV2.out] at lo
      have hsz := UM.out.size
      refine ⟨rfl, { tm with a := .slice (some ⟨g2, 0, none⟩) (i + 1) cap2 }, hTT.out, upd_more UM.out hu (fun c _ h => FM.out c h), fun c h => ?_, hp⟩
      rcases fp_arr (t := tm) (B := wr.heap.size) (by
        rcases lo with lo | lo
        · exact .inl (by rw [HAM.out]; exact lo)
        · exact .inr ⟨_, lo, by rw [World.size_alloc]; omega⟩) c h with h | h
      · exact FM.out c h
      · exact .inr (by omega)

end Go.Proofs.YtlmadbgpllokfaaGreatFmt
