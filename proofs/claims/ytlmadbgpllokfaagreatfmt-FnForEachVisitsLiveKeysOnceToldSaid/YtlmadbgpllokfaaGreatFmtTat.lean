/- Stores and look-ups under string keys: RawSetString, RawSet, RawGet: walked. -/
import Derived.Test.YtlmadbgpllokfaaGreatFmtTas
namespace Go.Proofs.YtlmadbgpllokfaaGreatFmt
open Go.RowKit Go.Mapy Go.Tbl
set_option maxRecDepth 100000

theorem raw_set_str (t : Tbs) (mt : Value) (S : St) (ks : List Value) (ix : List MapEntry) (s : ByteArray) (ty : TypeId) (x : Value) (w : World) (hty : ty ≠ 69) (hkl : ks.length ≤ 1048576) (h : Tab w t mt S ks ix) :
    Calls Tryz.prog 44 #[.pointer (some ⟨t.T, 0, none⟩), .string s, .iface ty x] w (SetStr t mt S ks ix s (.iface ty x) false w) := by
  cases hsp : spot keyEq (kval (.str s)) ix 0 with
  | some p => exact set_known t mt S ks ix s ty x w hty p hsp h
  | none =>
    rcases h.ke.2 with ⟨hk0, _⟩ | ⟨g, cap, cur, hk1, _⟩
    · obtain ⟨_, rfl, rfl⟩ := tbl_old h hk0
      exact set_first t mt S s ty x w hk0 hty h
    · cases hi : t.i with
      | none =>
        have := h.kn.1 hi
        rw [hk1] at this
        cases this
      | some I => exact set_added t mt S ks ix s ty x w g cap I hi hk1 hty hkl hsp h

theorem put_of_drop {eqv : Value → Value → Bool} {D : Value → Prop} (A : Apart eqv D) {k v : Value} {es es' : List MapEntry} (F : Fine eqv D es) (hk : D k) (h : DropTo eqv k es es') : Put eqv D k v true es es' := by
  intro k' hk'
  rcases h with ⟨hn, rfl⟩ | ⟨i, v0, hs, rfl⟩
  · cases hq : eqv k' k
    · simp
    · simp only [if_true]
      rw [cont_none]
      intro e he
      cases h2 : eqv k' e.key
      · rfl
      · have h3 := A.trans k k' e.key hk hk' (F.keys e he).1 (A.symm k' k hk' hk hq) h2
        rw [spot_none.1 hn e he] at h3
        cases h3
  · obtain ⟨q, e1, hq, he1, _, hee⟩ := spot_some hs
    obtain rfl : i = q := by omega
    rw [cont_drop A hk F he1 hee k' hk']
    simp
theorem fine_of_drop {eqv : Value → Value → Bool} {D : Value → Prop} {k : Value} {es es' : List MapEntry} (F : Fine eqv D es) (h : DropTo eqv k es es') : Fine eqv D es' := by
  rcases h with ⟨_, rfl⟩ | ⟨i, v0, _, rfl⟩
  · exact F
  · exact fine_drop F i

/-- The table behind a change of the map of its strings. -/
theorem Tab.new_str {w w' : World} {t : Tbs} {mt : Value} {S : St} {ks : List Value} {ix : List MapEntry} (h : Tab w t mt S ks ix) {es' : Array MapEntry} {c : Nat} (hu : Upd (fun x => x = t.s) w w') (hb : Turned w w' t.s es' c) (hf : Fine seq IsStr es'.toList) :
    Tab w' t mt { S with str := es'.toList } ks ix where
  tb := hu.blk h.tb (fun e => h.T_ne.1 e)
  ar := owns_upd h.ar hu (fun c hc => (h.row_ne.1 c hc).1)
  nm := h.nm.upd hu (fun c hc e => h.sd.1 (by rw [hc, e]))
  sn := h.nm.stamp h.sn hu (fun c hc e => h.sd.1 (by rw [hc, e]))
  st := ⟨es', c, hb.1, rfl⟩
  ss := turned_stamp hb h.st h.ss
  ke := owns_upd h.ke hu (fun c hc => (h.row_ne.2 c hc).1)
  im := h.im.upd hu (fun c hc e => h.sd.2.1 (by rw [hc, e]))
  kn := h.kn
  an := h.an
  sd := h.sd
  ak := h.ak
  fs := hf
  fn := h.fn
  fi := h.fi

theorem eq_nil (w : World) : (binOp .eql 49 (.iface 69 (.int .u8 0)) (.iface 69 (.int .u8 0))).run Tryz.prog w = .ok (.bool true) w := by kernel_rfl

set_option maxHeartbeats 1600000 in
theorem drop_old (t : Tbs) (mt : Value) (S : St) (ks : List Value) (ix : List MapEntry) (s : ByteArray) (w : World) (g cap : Nat) (hk1 : t.k = .slice (some ⟨g, 0, none⟩) ks.length cap) (h : Tab w t mt S ks ix) :
    Calls Tryz.prog 44 #[.pointer (some ⟨t.T, 0, none⟩), .string s, nilw] w (SetStr t mt S ks ix s nilw true w) := by
  have hnn := eq_nil
  have c3 := h.tb.at (o := 3) rfl
  have c4 := h.tb.at (o := 4) rfl
  rw [hk1] at c4
  obtain ⟨es0, c0, hms, hes⟩ := h.st
  have hsk : ∀ e ∈ es0.toList, IsStr e.key := fun e he => by rw [hes] at he; exact (h.fs.keys e he).1
  obtain ⟨w1, es1, c1, hrun, hu1, hb1, hp1⟩ := run_drop w 9 Tryz.underlying86 hms (str_run s es0.toList hsk)
  rw [hes] at hp1
  have H2 := Lib.hid (h.new_str hu1 hb1 (fine_of_drop h.fs hp1))
  have PT := Lib.hid (put_of_drop (v := nilw) sapart h.fs ⟨s, rfl⟩ hp1)
  have UP := Lib.hid (hu1.mono (T := Fp t) (fun c _ e => .inr (.inr (.inr (.inl e)))))
  clear h hms hes hsk hu1 hb1 hp1
  unfold nilw
  go_enter Tryz.func44, Tryz.ntmps44
  go_wp2
  go_end0
  exact ⟨rfl, t, _, ks, ix, rfl, UP.out, fun c hc => .inl hc, H2.out, PT.out, (fun h => by cases h), fun _ => ⟨rfl, rfl⟩, by omega⟩

set_option maxHeartbeats 1600000 in
theorem drop_first (t : Tbs) (mt : Value) (S : St) (s : ByteArray) (w : World) (hk0 : t.k = .slice none 0 0) (h : Tab w t mt S [] []) :
    Calls Tryz.prog 44 #[.pointer (some ⟨t.T, 0, none⟩), .string s, nilw] w (SetStr t mt S [] [] s nilw true w) := by
  have hnn := eq_nil
  have c3 := h.tb.at (o := 3) rfl
  have c4 := h.tb.at (o := 4) rfl
  have f4 := h.tb.free 4
  have c5 := h.tb.at (o := 5) rfl
  have f5 := h.tb.free 5
  have lt := h.tb.lt
  rw [hk0] at c4
  rw [(tbl_old h hk0).1] at c5
  have hmm : ∀ w, (Instr.makeMap 87 none).run Tryz.prog w = .ok (.map (some w.heap.size)) (w.alloc (.map #[] 0)) := fun w => rfl
  have hT := h.made hk0
  obtain ⟨es0, c0, hms, hes⟩ : ∃ e c, ((((w.setCell ⟨t.T, 4, none⟩ (.slice (some ⟨w.heap.size, 0, none⟩) 0 0)).setCell ⟨t.T, 5, none⟩ (.map (some (w.heap.size + 1)))).alloc (.cells #[] 49)).alloc (.map #[] 0)).heap[t.s]? = some (.map e c) ∧ e.toList = S.str := hT.st
  have hsk : ∀ e ∈ es0.toList, IsStr e.key := fun e he => by rw [hes] at he; exact (h.fs.keys e he).1
  obtain ⟨w1, es1, c1, hrun, hu1, hb1, hp1⟩ := run_drop _ 9 Tryz.underlying86 hms (str_run s es0.toList hsk)
  rw [hes] at hp1
  have H2 := Lib.hid (hT.new_str hu1 hb1 (fine_of_drop h.fs hp1))
  have PT := Lib.hid (put_of_drop (v := nilw) sapart h.fs ⟨s, rfl⟩ hp1)
  have UP := Lib.hid ((show Upd (Fp t) w _ from ((((Upd.refl (Fp t) w).setCell ⟨t.T, 4, none⟩ _ (.inl (.inl rfl))).setCell ⟨t.T, 5, none⟩ _ (.inl (.inl rfl))).alloc _).alloc _).trans (hu1.mono (T := Fp t) (fun c _ e => .inr (.inr (.inr (.inl e))))))
  clear h hms hes hsk hu1 hb1 hp1 hT
  unfold nilw
  go_enter Tryz.func44, Tryz.ntmps44
  go_wp2
  go_end0
  refine ⟨rfl, withKeys t w.heap.size (w.heap.size + 1), _, [], [], rfl, UP.out, fun c h => ?_, H2.out, PT.out, (fun h => by cases h), fun _ => ⟨rfl, rfl⟩, by simp⟩
  rcases h with h | h | h | h | h | h
  · exact .inl (.inl h)
  · exact .inl (.inr (.inl h))
  · exact .inl (.inr (.inr (.inl h)))
  · exact .inl (.inr (.inr (.inr (.inl h))))
  · exact .inr (Nat.le_of_eq (Option.some.inj h))
  · exact .inr (by have := Option.some.inj h; omega)

theorem drop_str (t : Tbs) (mt : Value) (S : St) (ks : List Value) (ix : List MapEntry) (s : ByteArray) (w : World) (h : Tab w t mt S ks ix) :
    Calls Tryz.prog 44 #[.pointer (some ⟨t.T, 0, none⟩), .string s, nilw] w (SetStr t mt S ks ix s nilw true w) := by
  rcases h.ke.2 with ⟨hk0, _⟩ | ⟨g, cap, cur, hk1, _⟩
  · obtain ⟨_, rfl, rfl⟩ := tbl_old h hk0
    exact drop_first t mt S s w hk0 h
  · exact drop_old t mt S ks ix s w g cap hk1 h

/-- A value, and whether it is Lua's nil. -/
def Val (v : Value) (isNil : Bool) : Prop := (isNil = true ∧ v = nilw) ∨ (isNil = false ∧ ∃ ty x, v = .iface ty x ∧ ty ≠ 69 ∧ (Value.iface ty x).oneCell' = true)

theorem set_string (t : Tbs) (mt : Value) (S : St) (ks : List Value) (ix : List MapEntry) (s : ByteArray) (v : Value) (isNil : Bool) (w : World) (hv : Val v isNil) (hkl : ks.length ≤ 1048576) (h : Tab w t mt S ks ix) :
    Calls Tryz.prog 44 #[.pointer (some ⟨t.T, 0, none⟩), .string s, v] w (SetStr t mt S ks ix s v isNil w) := by
  rcases hv with ⟨rfl, rfl⟩ | ⟨rfl, ty, x, rfl, hty, _⟩
  · exact drop_str t mt S ks ix s w h
  · exact raw_set_str t mt S ks ix s ty x w hty hkl h

set_option maxHeartbeats 400000 in
theorem set_key_str (t : Tbs) (mt : Value) (S : St) (ks : List Value) (ix : List MapEntry) (s : ByteArray) (v : Value) (isNil : Bool) (w : World) (hv : Val v isNil) (hkl : ks.length ≤ 1048576) (h : Tab w t mt S ks ix) :
    Calls Tryz.prog 77 #[.pointer (some ⟨t.T, 0, none⟩), .iface 78 (.string s), v] w (SetStr t mt S ks ix s v isNil w) := by
  have C := Lib.hid (set_string t mt S ks ix s v isNil w hv hkl h)
  clear hv hkl h
  go_enter Tryz.func77, Tryz.ntmps77
  go_wp2_with fail
  refine C.out.mono ?_
  rintro e w' ⟨rfl, hp⟩
  have HP := Lib.hid hp
  clear hp C
  go_wp2
  go_end0
  exact ⟨rfl, HP.out⟩

set_option maxHeartbeats 400000 in
theorem l_set_str (L : Option Addr) (t : Tbs) (mt : Value) (S : St) (ks : List Value) (ix : List MapEntry) (s : ByteArray) (v : Value) (isNil : Bool) (w : World) (hv : Val v isNil) (hkl : ks.length ≤ 1048576) (h : Tab w t mt S ks ix) :
    Calls Tryz.prog 59 #[.pointer L, .pointer (some ⟨t.T, 0, none⟩), .iface 78 (.string s), v] w (SetStr t mt S ks ix s v isNil w) := by
  have C := Lib.hid (set_key_str t mt S ks ix s v isNil w hv hkl h)
  have hne := ne_nil 78 (.string s) (by decide)
  clear hv hkl h
  go_enter Tryz.func59, Tryz.ntmps59
  go_wp2_with fail
  refine C.out.mono ?_
  rintro e w' ⟨rfl, hp⟩
  have HP := Lib.hid hp
  clear hp C
  go_wp2
  go_end0
  exact ⟨rfl, HP.out⟩

/-- What a table holds at a key. -/
abbrev holds (S : St) (k : Key) : Value := Tbl.look 53 78 nilw S k

set_option maxHeartbeats 400000 in
theorem tget_str (t : Tbs) (mt : Value) (S : St) (ks : List Value) (ix : List MapEntry) (s : ByteArray) (w : World) (h : Tab w t mt S ks ix) :
    Calls Tryz.prog 62 #[.pointer (some ⟨t.T, 0, none⟩), .iface 78 (.string s)] w fun e w' => e = .returned (holds S (.str s)) ∧ w = w' := by
  have c3 := h.tb.at (o := 3) rfl
  obtain ⟨es0, c0, hms, hes⟩ := h.st
  have hsk : ∀ e ∈ es0.toList, IsStr e.key := fun e he => by rw [hes] at he; exact (h.fs.keys e he).1
  have K := str_run s es0.toList hsk
  cases hsp : spot seq (.string s) es0.toList 0 with
  | some p =>
    have hl := look_some w Tryz.underlying86 hms K hsp true
    have e1 : holds S (.str s) = p.2 := by
      show (cont seq (.string s) S.str).getD nilw = _
      rw [← hes]
      unfold cont
      rw [hsp]
      rfl
    have E1 := Lib.hid e1
    clear h hms hes hsk K hsp e1
    go_enter Tryz.func62, Tryz.ntmps62
    go_wp2
    go_ret
    exact ⟨by rw [E1.out]; rfl, rfl⟩
  | none =>
    have hl := look_none (z := .nilIface) w Tryz.underlying86 (by kernel_rfl) hms K hsp true
    have e1 : holds S (.str s) = nilw := by
      show (cont seq (.string s) S.str).getD nilw = _
      rw [← hes]
      unfold cont
      rw [hsp]
      rfl
    have E1 := Lib.hid e1
    clear h hms hes hsk K hsp e1
    go_enter Tryz.func62, Tryz.ntmps62
    go_wp2
    go_ret
    exact ⟨by rw [E1.out]; rfl, rfl⟩

set_option maxHeartbeats 400000 in
theorem l_get_str (L : Option Addr) (t : Tbs) (mt : Value) (S : St) (ks : List Value) (ix : List MapEntry) (s : ByteArray) (w : World) (h : Tab w t mt S ks ix) :
    Calls Tryz.prog 20 #[.pointer L, .pointer (some ⟨t.T, 0, none⟩), .iface 78 (.string s)] w fun e w' => e = .returned (holds S (.str s)) ∧ w = w' := by
  have H := Lib.hid h
  clear h
  go_enter Tryz.func20, Tryz.ntmps20
  go_wp2_with fail
  refine (tget_str t mt S ks ix s _ H.out).mono ?_
  rintro e w' ⟨rfl, rfl⟩
  go_wp2
  go_ret
  exact ⟨rfl, rfl⟩
end Go.Proofs.YtlmadbgpllokfaaGreatFmt
