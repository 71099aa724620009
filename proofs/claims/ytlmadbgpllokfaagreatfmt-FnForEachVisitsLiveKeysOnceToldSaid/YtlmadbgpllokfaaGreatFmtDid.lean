/- RawSetH at a number where the map is not made: walked. -/
import Derived.Test.YtlmadbgpllokfaaGreatFmtDic
namespace Go.Proofs.YtlmadbgpllokfaaGreatFmt
open Go.RowKit Go.Mapy Go.Tbl
set_option maxRecDepth 100000

set_option maxHeartbeats 1600000 in
theorem put_new_known (t : Tbs) (mt : Value) (S : St) (ks : List Value) (ix : List MapEntry) (b : Nat) (ty : TypeId) (x : Value) (w : World) (hd : t.d = none) (g cap : Nat) (hk1 : t.k = .slice (some ⟨g, 0, none⟩) ks.length cap) (I : Nat) (hI : t.i = some I) (p : Nat × Value) (hsp : spot keyEq (kval (.num b)) ix 0 = some p) (hty : ty ≠ 69) (hbk : keyEq (kval (.num b)) (kval (.num b)) = true) (h : Tab w t mt S ks ix) :
    Calls Tryz.prog 89 #[.pointer (some ⟨t.T, 0, none⟩), .iface 53 (.float .f64 b), .iface ty x] w (SetNum t mt S ks ix b (Value.iface ty x) false w) := by
  have hnn := ne_nil ty x hty
  have c2 := h.tb.at (o := 2) rfl
  have c4 := h.tb.at (o := 4) rfl
  have lt := h.tb.lt
  rw [hd] at c2
  have f2 := h.tb.free 2
  have c3 := h.tb.at (o := 3) rfl
  obtain ⟨ess, css, hss, _⟩ := h.st
  have hlen : ∀ ty, (Builtin.len_ #[86] ty #[.map (some t.s)]).run Tryz.prog w = .ok (goInt ess.size) w := fun ty => len_map w hss ty
  have hmk : ∀ w, (Instr.makeMap 85 (some (.int .i64 (ess.size : Int)))).run Tryz.prog w = .ok (.map (some w.heap.size)) (w.alloc (.map #[] 0)) := fun w => rfl
  rw [hk1] at c4
  have hDt : (({ t with d := some w.heap.size } : Tbs)).d = some (w.heap.size) := rfl
  obtain ⟨es0, c0, hms, hes⟩ : ∃ e c, (((w.setCell ⟨t.T, 2, none⟩ (.map (some w.heap.size))).alloc (.map #[] 0))).heap[w.heap.size]? = some (.map e c) ∧ e.toList = S.num := by
    have h0 := (h.dict_made hd).nm
    rw [hDt] at h0
    exact h0
  have hsk : ∀ e ∈ es0.toList, isKey e.key := fun e he => by rw [hes] at he; exact (h.fn.keys e he).1
  obtain ⟨w1, es1, c1, hrun, hu1, hb1, hp1⟩ := run_put (k := kval (.num b)) (v := Value.iface ty x) (((w.setCell ⟨t.T, 2, none⟩ (.map (some w.heap.size))).alloc (.map #[] 0))) Tryz.underlying85 hms (key_run (.num b) es0.toList hsk)
  rw [show kval (.num b) = Value.iface 53 (.float .f64 b) from rfl] at hrun
  rw [hes] at hp1
  have h2 := (h.dict_made hd).new_num hDt hu1 hb1 (fine_of_to (iapart _ _) h.fn ⟨.num b, rfl⟩ hbk hp1)
  have PT := Lib.hid (put_of_to (iapart _ _) h.fn ⟨.num b, rfl⟩ hbk hp1)
  have UP := Lib.hid (upd_more (show Upd (Fp t) w (((w.setCell ⟨t.T, 2, none⟩ (.map (some w.heap.size))).alloc (.map #[] 0))) from ((Upd.refl (Fp t) w).setCell ⟨t.T, 2, none⟩ _ (.inl (.inl rfl))).alloc _) hu1 (fun c _ e => .inr (by have e : c = w.heap.size := e; omega)))
  have hfp : ∀ c, Fp (({ t with d := some w.heap.size } : Tbs)) c → Fp t c ∨ w.heap.size ≤ c := fun c h => by
    rcases h with h | h | h | h | h | h
    · exact .inl (.inl h)
    · exact .inl (.inr (.inl h))
    · exact .inr (Nat.le_of_eq (Option.some.inj h))
    · exact .inl (.inr (.inr (.inr (.inl h))))
    · exact .inl (.inr (.inr (.inr (.inr (.inl h)))))
    · exact .inl (.inr (.inr (.inr (.inr (.inr h)))))
  have FP := Lib.hid hfp
  have c5 : w1.cell? ⟨t.T, 5, none⟩ = some (.map (({ t with d := some w.heap.size } : Tbs)).i) := h2.tb.at (o := 5) rfl
  rw [show (({ t with d := some w.heap.size } : Tbs)).i = some I from hI] at c5
  obtain ⟨es2, c2', him, hix⟩ : ∃ e c, w1.heap[I]? = some (.map e c) ∧ e.toList = ix := by
    have h0 := h2.im
    rw [show (({ t with d := some w.heap.size } : Tbs)).i = some I from hI] at h0
    exact h0
  have hl := look_some (k := kval (.num b)) w1 Tryz.underlying87 him (key_run (.num b) es2.toList (fun e he => by rw [hix] at he; exact (h.fi.keys e he).1)) (by rw [hix]; exact hsp) true
  rw [show kval (.num b) = Value.iface 53 (.float .f64 b) from rfl] at hl
  have H2 := Lib.hid h2
  have HP := Lib.hid hsp
  clear h2 hms hes hsk hu1 hb1 hp1 hDt hfp hss him hix hsp h hbk
  go_enter Tryz.func89, Tryz.ntmps89
  go_wp2
  go_end0
  exact ⟨rfl, ({ t with d := some w.heap.size } : Tbs), _, ks, ix, rfl, UP.out, FP.out, H2.out, PT.out, fun _ => .inl ⟨rfl, rfl, _, HP.out⟩, (fun h => by cases h), by simp⟩

set_option maxHeartbeats 1600000 in
theorem put_new_added (t : Tbs) (mt : Value) (S : St) (ks : List Value) (ix : List MapEntry) (b : Nat) (ty : TypeId) (x : Value) (w : World) (hd : t.d = none) (g cap : Nat) (hk1 : t.k = .slice (some ⟨g, 0, none⟩) ks.length cap) (I : Nat) (hI : t.i = some I) (hkl : ks.length ≤ 1048576) (hsp : spot keyEq (kval (.num b)) ix 0 = none) (hty : ty ≠ 69) (hbk : keyEq (kval (.num b)) (kval (.num b)) = true) (h : Tab w t mt S ks ix) :
    Calls Tryz.prog 89 #[.pointer (some ⟨t.T, 0, none⟩), .iface 53 (.float .f64 b), .iface ty x] w (SetNum t mt S ks ix b (Value.iface ty x) false w) := by
  have hnn := ne_nil ty x hty
  have c2 := h.tb.at (o := 2) rfl
  have c4 := h.tb.at (o := 4) rfl
  have lt := h.tb.lt
  rw [hd] at c2
  have f2 := h.tb.free 2
  have c3 := h.tb.at (o := 3) rfl
  obtain ⟨ess, css, hss, _⟩ := h.st
  have hlen : ∀ ty, (Builtin.len_ #[86] ty #[.map (some t.s)]).run Tryz.prog w = .ok (goInt ess.size) w := fun ty => len_map w hss ty
  have hmk : ∀ w, (Instr.makeMap 85 (some (.int .i64 (ess.size : Int)))).run Tryz.prog w = .ok (.map (some w.heap.size)) (w.alloc (.map #[] 0)) := fun w => rfl
  rw [hk1] at c4
  have hDt : (({ t with d := some w.heap.size } : Tbs)).d = some (w.heap.size) := rfl
  obtain ⟨es0, c0, hms, hes⟩ : ∃ e c, (((w.setCell ⟨t.T, 2, none⟩ (.map (some w.heap.size))).alloc (.map #[] 0))).heap[w.heap.size]? = some (.map e c) ∧ e.toList = S.num := by
    have h0 := (h.dict_made hd).nm
    rw [hDt] at h0
    exact h0
  have hsk : ∀ e ∈ es0.toList, isKey e.key := fun e he => by rw [hes] at he; exact (h.fn.keys e he).1
  obtain ⟨w1, es1, c1, hrun, hu1, hb1, hp1⟩ := run_put (k := kval (.num b)) (v := Value.iface ty x) (((w.setCell ⟨t.T, 2, none⟩ (.map (some w.heap.size))).alloc (.map #[] 0))) Tryz.underlying85 hms (key_run (.num b) es0.toList hsk)
  rw [show kval (.num b) = Value.iface 53 (.float .f64 b) from rfl] at hrun
  rw [hes] at hp1
  have h2 := (h.dict_made hd).new_num hDt hu1 hb1 (fine_of_to (iapart _ _) h.fn ⟨.num b, rfl⟩ hbk hp1)
  have PT := Lib.hid (put_of_to (iapart _ _) h.fn ⟨.num b, rfl⟩ hbk hp1)
  have UP := Lib.hid (upd_more (show Upd (Fp t) w (((w.setCell ⟨t.T, 2, none⟩ (.map (some w.heap.size))).alloc (.map #[] 0))) from ((Upd.refl (Fp t) w).setCell ⟨t.T, 2, none⟩ _ (.inl (.inl rfl))).alloc _) hu1 (fun c _ e => .inr (by have e : c = w.heap.size := e; omega)))
  have hfp : ∀ c, Fp (({ t with d := some w.heap.size } : Tbs)) c → Fp t c ∨ w.heap.size ≤ c := fun c h => by
    rcases h with h | h | h | h | h | h
    · exact .inl (.inl h)
    · exact .inl (.inr (.inl h))
    · exact .inr (Nat.le_of_eq (Option.some.inj h))
    · exact .inl (.inr (.inr (.inr (.inl h))))
    · exact .inl (.inr (.inr (.inr (.inr (.inl h)))))
    · exact .inl (.inr (.inr (.inr (.inr (.inr h)))))
  have FP := Lib.hid hfp
  have c5 : w1.cell? ⟨t.T, 5, none⟩ = some (.map (({ t with d := some w.heap.size } : Tbs)).i) := h2.tb.at (o := 5) rfl
  rw [show (({ t with d := some w.heap.size } : Tbs)).i = some I from hI] at c5
  obtain ⟨es2, c2', him, hix⟩ : ∃ e c, w1.heap[I]? = some (.map e c) ∧ e.toList = ix := by
    have h0 := h2.im
    rw [show (({ t with d := some w.heap.size } : Tbs)).i = some I from hI] at h0
    exact h0
  have hl := look_none (k := kval (.num b)) (z := .int .i64 0) w1 Tryz.underlying87 (by kernel_rfl) him (key_run (.num b) es2.toList (fun e he => by rw [hix] at he; exact (h2.fi.keys e he).1)) (by rw [hix]; exact hsp) true
  rw [show kval (.num b) = Value.iface 53 (.float .f64 b) from rfl] at hl
  have H2 := Lib.hid h2
  have HP := Lib.hid hsp
  have HBK := Lib.hid hbk
  clear h2 hms hes hsk hu1 hb1 hp1 hDt hfp hss him hix hsp hbk
  go_enter Tryz.func89, Tryz.ntmps89
  go_wp2
  refine wp_region_tail_at 10 (by kernel_rfl) (by kernel_rfl) (fun w2 hW2 => ?_)
  have up2 : Upd (Fp t) w w2 := by rw [hW2]; exact UP.out.drew
  have h3 : Tab w2 (({ t with d := some w.heap.size } : Tbs)) mt { S with num := es1.toList } ks ix := by rw [hW2]; exact H2.out.upd ((Upd.refl (fun _ => False) w1).drew) (fun _ _ h => h)
  have c4 : w2.cell? ⟨t.T, 4, none⟩ = some (({ t with d := some w.heap.size } : Tbs)).k := h3.tb.at (o := 4) rfl
  rw [show (({ t with d := some w.heap.size } : Tbs)).k = .slice (some ⟨g, 0, none⟩) ks.length cap from hk1] at c4
  have c5 : w2.cell? ⟨t.T, 5, none⟩ = some (.map (({ t with d := some w.heap.size } : Tbs)).i) := h3.tb.at (o := 5) rfl
  rw [show (({ t with d := some w.heap.size } : Tbs)).i = some I from hI] at c5
  obtain ⟨es2, c2', him, hix⟩ : ∃ e c, w2.heap[I]? = some (.map e c) ∧ e.toList = ix := by
    have h0 := h3.im
    rw [show (({ t with d := some w.heap.size } : Tbs)).i = some I from hI] at h0
    exact h0
  obtain ⟨w3, es3, c3', hrun3, hu3, hb3, hp3⟩ := run_put (k := kval (.num b)) (v := Value.int .i64 (ks.length : Int)) w2 Tryz.underlying87 him (key_run (.num b) es2.toList (fun e he => by rw [hix] at he; exact (h3.fi.keys e he).1))
  rw [show kval (.num b) = Value.iface 53 (.float .f64 b) from rfl] at hrun3
  rw [hix] at hp3
  have h4 := h3.put_key (show (({ t with d := some w.heap.size } : Tbs)).i = some I from hI) HBK.out hu3 hb3 hp3
  have K4 := Lib.hid (show ∃ n, es3.toList = ix ++ [⟨kval (.num b), .int .i64 ks.length, n⟩] from by
    rcases hp3 with ⟨_, n, hn⟩ | ⟨i, v0, e0, k', n, h1, _⟩
    · exact ⟨n, hn⟩
    · rw [HP.out] at h1; cases h1)
  have c4b : w3.cell? ⟨t.T, 4, none⟩ = some (({ t with d := some w.heap.size } : Tbs)).k := h4.tb.at (o := 4) rfl
  rw [show (({ t with d := some w.heap.size } : Tbs)).k = .slice (some ⟨g, 0, none⟩) ks.length cap from hk1] at c4b
  have U3 := Lib.hid (upd_more up2 hu3 (fun c _ e => .inl (.inr (.inr (.inr (.inr (.inr (by rw [hI, e]))))))))
  have H4 := Lib.hid h4
  obtain ⟨i0, hi0, hz0, hz1, hz2⟩ := info_parts infoLV
  have own : w3.ownsRow 0 49 1 (.slice (some ⟨g, 0, none⟩) ks.length cap) ks.length ks := by
    have h0 := H4.out.ke
    rw [show (({ t with d := some w.heap.size } : Tbs)).k = .slice (some ⟨g, 0, none⟩) ks.length cap from hk1] at h0
    exact h0
  have OWN := Lib.hid own
  have hlt3 : t.T < w3.heap.size := H4.out.tb.lt
  clear h3 h4 hu3 hb3 hp3 him hix hW2 up2 own H2
  simp only [List.take_succ_cons, List.take_zero, List.drop_succ_cons, List.drop_zero]
  repeat still_step
  refine wpStill_nil ?_
  go_wp2_with (at_builtin; refine wpList_append_own_at _ rfl _ _ 84 rfl 0 49 i0 .nilIface 1 16 Tryz.underlying84 hi0 hz0 hz1 hz2 rfl (by decide) _ _ _ rfl (OWN.out.alloc _) ⟨_, 0, none⟩ 1 1 [.iface 53 (.float .f64 b)] rfl rfl (cell_one_new _ _ _) (by intro u hu; simp at hu; subst hu; rfl) (by unfold maxLen; omega) (by omega) (Nat.zero_le _) ?_; intro v' w4 hown hgrow hnil hloc; have OW4 := Lib.hid hown; have GR := Lib.hid hgrow; have LO := Lib.hid (show v'.ownBlock = (Value.slice (some ⟨g, 0, none⟩) ks.length cap).ownBlock ∨ v'.ownBlock = some (w3.alloc (.cells #[.iface 53 (.float .f64 b)] 49)).heap.size from hloc); have c4x : w4.cell? ⟨t.T, 4, none⟩ = some (({ t with d := some w.heap.size } : Tbs)).k := (H4.out.tb_grown (t := ({ t with d := some w.heap.size } : Tbs)) (by rw [show (({ t with d := some w.heap.size } : Tbs)).k = .slice (some ⟨g, 0, none⟩) ks.length cap from hk1]; exact GR.out)).at (o := 4) rfl; have f4x : w4.frozen? ⟨t.T, 4, none⟩ = false := (H4.out.tb_grown (t := ({ t with d := some w.heap.size } : Tbs)) (by rw [show (({ t with d := some w.heap.size } : Tbs)).k = .slice (some ⟨g, 0, none⟩) ks.length cap from hk1]; exact GR.out)).free 4; clear hnil hloc hgrow; obtain ⟨g2, cap2, hv2⟩ := row_some hown (by omega); have HV2 := Lib.hid hv2; clear hown; rw [hv2]; clear hv2)
  go_end0
  obtain ⟨hp5, hu5⟩ := H4.out.push_key (k := kval (.num b)) (show (({ t with d := some w.heap.size } : Tbs)).i = some I from hI) (by rw [show (({ t with d := some w.heap.size } : Tbs)).k = .slice (some ⟨g, 0, none⟩) ks.length cap from hk1]; exact GR.out) rfl OW4.out (fun e => by rw [HV2.out] at e; cases e) (by rw [show (({ t with d := some w.heap.size } : Tbs)).k = .slice (some ⟨g, 0, none⟩) ks.length cap from hk1]; exact LO.out)
  rw [HV2.out] at hp5 hu5
  have hfp := FP.out
  refine ⟨rfl, { (({ t with d := some w.heap.size } : Tbs)) with k := .slice (some ⟨g2, 0, none⟩) (ks.length + 1) cap2 }, _, _, es3.toList, rfl, upd_more U3.out hu5 (fun c _ h => hfp c h), fun c hc => ?_, hp5, PT.out, fun _ => .inr ⟨rfl, HP.out, K4.out⟩, (fun h => by cases h), by simp⟩
  have hsz : w.heap.size ≤ w3.heap.size := U3.out.size
  have lo := LO.out
  rw [HV2.out] at lo
  rcases hc with h | h | h | h | h | h
  · exact hfp c (.inl h)
  · exact hfp c (.inr (.inl h))
  · exact hfp c (.inr (.inr (.inl h)))
  · exact hfp c (.inr (.inr (.inr (.inl h))))
  · rcases lo with lo | lo
    · exact hfp c (.inr (.inr (.inr (.inr (.inl (by rw [show (({ t with d := some w.heap.size } : Tbs)).k = .slice (some ⟨g, 0, none⟩) ks.length cap from hk1, ← lo]; exact h))))))
    · right
      have h : (Value.slice (some ⟨g2, 0, none⟩) (ks.length + 1) cap2).ownBlock = some c := h
      rw [lo] at h
      have h := Option.some.inj h
      rw [World.size_alloc] at h
      omega
  · exact hfp c (.inr (.inr (.inr (.inr (.inr h)))))

set_option maxHeartbeats 1600000 in
theorem drop_new_added (t : Tbs) (mt : Value) (S : St) (ks : List Value) (ix : List MapEntry) (b : Nat) (w : World) (hd : t.d = none) (g cap : Nat) (hk1 : t.k = .slice (some ⟨g, 0, none⟩) ks.length cap) (h : Tab w t mt S ks ix) :
    Calls Tryz.prog 89 #[.pointer (some ⟨t.T, 0, none⟩), .iface 53 (.float .f64 b), nilw] w (SetNum t mt S ks ix b (nilw) true w) := by
  have hnn := eq_nil
  have c2 := h.tb.at (o := 2) rfl
  have c4 := h.tb.at (o := 4) rfl
  have lt := h.tb.lt
  rw [hd] at c2
  have f2 := h.tb.free 2
  have c3 := h.tb.at (o := 3) rfl
  obtain ⟨ess, css, hss, _⟩ := h.st
  have hlen : ∀ ty, (Builtin.len_ #[86] ty #[.map (some t.s)]).run Tryz.prog w = .ok (goInt ess.size) w := fun ty => len_map w hss ty
  have hmk : ∀ w, (Instr.makeMap 85 (some (.int .i64 (ess.size : Int)))).run Tryz.prog w = .ok (.map (some w.heap.size)) (w.alloc (.map #[] 0)) := fun w => rfl
  rw [hk1] at c4
  have hDt : (({ t with d := some w.heap.size } : Tbs)).d = some (w.heap.size) := rfl
  obtain ⟨es0, c0, hms, hes⟩ : ∃ e c, (((w.setCell ⟨t.T, 2, none⟩ (.map (some w.heap.size))).alloc (.map #[] 0))).heap[w.heap.size]? = some (.map e c) ∧ e.toList = S.num := by
    have h0 := (h.dict_made hd).nm
    rw [hDt] at h0
    exact h0
  have hsk : ∀ e ∈ es0.toList, isKey e.key := fun e he => by rw [hes] at he; exact (h.fn.keys e he).1
  obtain ⟨w1, es1, c1, hrun, hu1, hb1, hp1⟩ := run_drop (k := kval (.num b)) (((w.setCell ⟨t.T, 2, none⟩ (.map (some w.heap.size))).alloc (.map #[] 0))) 49 Tryz.underlying85 hms (key_run (.num b) es0.toList hsk)
  rw [show kval (.num b) = Value.iface 53 (.float .f64 b) from rfl] at hrun
  rw [hes] at hp1
  have h2 := (h.dict_made hd).new_num hDt hu1 hb1 (fine_of_drop h.fn hp1)
  have PT := Lib.hid (put_of_drop (v := nilw) (iapart _ _) h.fn ⟨.num b, rfl⟩ hp1)
  have UP := Lib.hid (upd_more (show Upd (Fp t) w (((w.setCell ⟨t.T, 2, none⟩ (.map (some w.heap.size))).alloc (.map #[] 0))) from ((Upd.refl (Fp t) w).setCell ⟨t.T, 2, none⟩ _ (.inl (.inl rfl))).alloc _) hu1 (fun c _ e => .inr (by have e : c = w.heap.size := e; omega)))
  have hfp : ∀ c, Fp (({ t with d := some w.heap.size } : Tbs)) c → Fp t c ∨ w.heap.size ≤ c := fun c h => by
    rcases h with h | h | h | h | h | h
    · exact .inl (.inl h)
    · exact .inl (.inr (.inl h))
    · exact .inr (Nat.le_of_eq (Option.some.inj h))
    · exact .inl (.inr (.inr (.inr (.inl h))))
    · exact .inl (.inr (.inr (.inr (.inr (.inl h)))))
    · exact .inl (.inr (.inr (.inr (.inr (.inr h)))))
  have FP := Lib.hid hfp
  have H2 := Lib.hid h2
  clear h2 hms hes hsk hu1 hb1 hp1 hDt hfp hss h
  unfold nilw
  go_enter Tryz.func89, Tryz.ntmps89
  go_wp2
  go_end0
  exact ⟨rfl, ({ t with d := some w.heap.size } : Tbs), _, ks, ix, rfl, UP.out, FP.out, H2.out, PT.out, (fun h => by cases h), fun _ => ⟨rfl, rfl⟩, by simp⟩

end Go.Proofs.YtlmadbgpllokfaaGreatFmt
