/- A table of the program: its blocks and what they hold. -/
import Derived.Test.YtlmadbgpllokfaaGreatFmtMpw
import Derived.Test.YtlmadbgpllokfaaGreatFmtTbl
import Derived.Test.YtlmadbgpllokfaaGreatFmtFee
namespace Go.Proofs.YtlmadbgpllokfaaGreatFmt
open Go.RowKit Go.Mapy Go.Tbl
set_option maxRecDepth 100000

/-- The equality of the program's keys. -/
abbrev keyEq : Value → Value → Bool := ieq 53 78
abbrev isKey : Value → Prop := IsKey 53 78
abbrev kval : Key → Value := kv 53 78

theorem infoNum : ∃ i, Tryz.prog.info? 53 = some i ∧ i.comparable = true := by
  have h1 : ((Tryz.prog.info? 53).map (·.comparable)) = some true := by kernel_rfl
  obtain ⟨i, hi, hc⟩ := Option.map_eq_some_iff.1 h1
  exact ⟨i, hi, hc⟩
theorem infoStrg : ∃ i, Tryz.prog.info? 78 = some i ∧ i.comparable = true := by
  have h1 : ((Tryz.prog.info? 78).map (·.comparable)) = some true := by kernel_rfl
  obtain ⟨i, hi, hc⟩ := Option.map_eq_some_iff.1 h1
  exact ⟨i, hi, hc⟩

theorem eq_num (d a b : Nat) (w : World) : (Op.equalIn (d + 1) 53 (.float .f64 a) (.float .f64 b)).run Tryz.prog w = .ok (FloatKind.f64.format.order a b == some .eq) w := by
  simp only [Op.equalIn, Sem.run_bind, run_underlying Tryz.underlying53, Result.andThen_ok, if_true]
  rfl
theorem eq_strg (d : Nat) (a b : ByteArray) (w : World) : (Op.equalIn (d + 1) 78 (.string a) (.string b)).run Tryz.prog w = .ok (a == b) w := by
  simp only [Op.equalIn, Sem.run_bind, run_underlying Tryz.underlying78, Result.andThen_ok]
  rfl
theorem eq_two (d : Nat) (tx ty : TypeId) (x y : Value) (h : tx ≠ ty) (w : World) : (Op.equalIn (d + 1) 49 (.iface tx x) (.iface ty y)).run Tryz.prog w = .ok false w := by
  simp only [Op.equalIn, Sem.run_bind, run_underlying Tryz.underlying49, Result.andThen_ok, if_pos h]
  rfl
theorem eq_in (d : Nat) (tx : TypeId) (i : TypeInfo) (x y : Value) (hi : Tryz.prog.info? tx = some i) (hc : i.comparable = true) (w : World) : (Op.equalIn (d + 1) 49 (.iface tx x) (.iface tx y)).run Tryz.prog w = (Op.equalIn d tx x y).run Tryz.prog w := by
  simp [Op.equalIn, run_underlying Tryz.underlying49, typeInfo, hi, hc]

theorem eq_key (a b : Key) (w : World) : (Op.equal 49 (kval a) (kval b)).run Tryz.prog w = .ok (keq a b) w := by
  obtain ⟨i, hi, hc⟩ := infoNum
  obtain ⟨j, hj, hd⟩ := infoStrg
  show (Op.equalIn (9998 + 1 + 1) 49 (kval a) (kval b)).run Tryz.prog w = _
  cases a <;> cases b
  · rw [show kval (.num _) = Value.iface 53 (.float .f64 _) from rfl, show kval (.num _) = Value.iface 53 (.float .f64 _) from rfl, eq_in _ _ i _ _ hi hc, eq_num]; rfl
  · exact eq_two _ _ _ _ _ (by decide) w
  · exact eq_two _ _ _ _ _ (by decide) w
  · rw [show kval (.str _) = Value.iface 78 (.string _) from rfl, show kval (.str _) = Value.iface 78 (.string _) from rfl, eq_in _ _ j _ _ hj hd, eq_strg]; rfl

theorem check_in (b : Bool) (d : Nat) (tx : TypeId) (i : TypeInfo) (x : Value) (hi : Tryz.prog.info? tx = some i) (hc : i.comparable = true) (w : World) : (Instr.checkKey b (d + 1) 49 (.iface tx x)).run Tryz.prog w = (Instr.checkKey b d tx x).run Tryz.prog w := by
  simp [Instr.checkKey, run_underlying Tryz.underlying49, typeInfo, hi, hc]
theorem check_num (b : Bool) (d a : Nat) (w : World) : (Instr.checkKey b (d + 1) 53 (.float .f64 a)).run Tryz.prog w = .ok () w := by
  simp only [Instr.checkKey, Sem.run_bind, run_underlying Tryz.underlying53, Result.andThen_ok]
  rfl
theorem check_strg (b : Bool) (d : Nat) (a : ByteArray) (w : World) : (Instr.checkKey b (d + 1) 78 (.string a)).run Tryz.prog w = .ok () w := by
  simp only [Instr.checkKey, Sem.run_bind, run_underlying Tryz.underlying78, Result.andThen_ok]
  rfl
theorem check_str (b : Bool) (d : Nat) (a : ByteArray) (w : World) : (Instr.checkKey b (d + 1) 9 (.string a)).run Tryz.prog w = .ok () w := by
  simp only [Instr.checkKey, Sem.run_bind, run_underlying Tryz.underlying9, Result.andThen_ok]
  rfl
theorem check_key (a : Key) (b : Bool) (w : World) : (Instr.checkKey b 10000 49 (kval a)).run Tryz.prog w = .ok () w := by
  obtain ⟨i, hi, hc⟩ := infoNum
  obtain ⟨j, hj, hd⟩ := infoStrg
  show (Instr.checkKey b (9998 + 1 + 1) 49 (kval a)).run Tryz.prog w = _
  cases a
  · exact (check_in b _ _ i _ hi hc w).trans (check_num b _ _ w)
  · exact (check_in b _ _ j _ hj hd w).trans (check_strg b _ _ w)

/-- What a map with the program's keys asks of a key. -/
theorem key_run (a : Key) (es : List MapEntry) (h : ∀ e ∈ es, isKey e.key) : KeyRun Tryz.prog 49 keyEq (kval a) es where
  check := fun b w => check_key a b w
  find := fun w => run_findKey_iface w Tryz.underlying49 es (fun e he => by
    obtain ⟨k, hk⟩ := h e he
    rw [hk]
    have := eq_key a k w
    rw [← ieq_kv 53 78 a k] at this
    exact this)
theorem str_run (s : ByteArray) (es : List MapEntry) (h : ∀ e ∈ es, IsStr e.key) : KeyRun Tryz.prog 9 seq (.string s) es where
  check := fun b w => check_str b 9999 s w
  find := fun w => run_findKey_string w Tryz.underlying9 es h

theorem eq_map_nil (t kt e : TypeId) (hu : Tryz.prog.underlying t = some (.map kt e)) (b : Option Nat) (w : World) : (binOp .eql t (.map b) (.map none)).run Tryz.prog w = .ok (.bool b.isNone) w := by
  have h : ∀ d : Nat, (Op.equalIn (d + 1) t (.map b) (.map none)).run Tryz.prog w = .ok b.isNone w := fun d => by
    cases b
    · simp only [Op.equalIn, Sem.run_bind, run_underlying hu, Result.andThen_ok]; rfl
    · simp only [Op.equalIn, Sem.run_bind, run_underlying hu, Result.andThen_ok]; rfl
  simp only [binOp]
  simp [Op.equal, Op.maxDepth, h 9999]
@[go_sem] theorem eq_mapS (b : Option Nat) (w : World) : (binOp .eql 86 (.map b) (.map none)).run Tryz.prog w = .ok (.bool b.isNone) w := eq_map_nil _ _ _ Tryz.underlying86 b w
@[go_sem] theorem eq_mapN (b : Option Nat) (w : World) : (binOp .eql 85 (.map b) (.map none)).run Tryz.prog w = .ok (.bool b.isNone) w := eq_map_nil _ _ _ Tryz.underlying85 b w
@[go_sem] theorem eq_rowLV (a : Option Addr) (n c : Nat) (w : World) : (binOp .eql 84 (.slice a n c) (.slice none 0 0)).run Tryz.prog w = .ok (.bool a.isNone) w := Lib.run_eql_slice_nil w 84 49 a n c 0 0 Tryz.underlying84

/-- A table's blocks. -/
structure Tbs where
  T : Nat
  a : Value
  d : Option Nat
  s : Nat
  k : Value
  i : Option Nat
def tbl (mt : Value) (t : Tbs) : List Value := [mt, t.a, .map t.d, .map (some t.s), t.k, .map t.i]
def Fp (t : Tbs) (c : Nat) : Prop := c = t.T ∨ t.a.ownBlock = some c ∨ t.d = some c ∨ c = t.s ∨ t.k.ownBlock = some c ∨ t.i = some c

/-- The map in a block. -/
def MapAt (w : World) (b : Option Nat) (es : List MapEntry) : Prop := match b with
  | none => es = []
  | some b => ∃ e c, w.heap[b]? = some (.map e c) ∧ e.toList = es

/-- Each entry of the map in a block bears a stamp of its own. -/
def StampAt (w : World) (b : Nat) : Prop := ∀ es c, w.heap[b]? = some (.map es c) → Stamps es.toList c

structure Tab (w : World) (t : Tbs) (mt : Value) (S : St) (ks : List Value) (ix : List MapEntry) : Prop where
  tb : Blk w t.T (tbl mt t) 89
  ar : w.ownsRow 0 49 1 t.a S.arr.length S.arr
  nm : MapAt w t.d S.num
  st : MapAt w (some t.s) S.str
  ke : w.ownsRow 0 49 1 t.k ks.length ks
  im : MapAt w t.i ix
  kn : t.i = none ↔ t.k = .slice none 0 0
  an : t.a ≠ .slice none 0 0
  sd : t.d ≠ some t.s ∧ t.i ≠ some t.s ∧ ∀ b, t.d = some b → t.i ≠ some b
  ak : ∀ b, t.a.ownBlock = some b → t.k.ownBlock ≠ some b
  fs : Fine seq IsStr S.str
  fn : Fine keyEq isKey S.num
  fi : Fine keyEq isKey ix
  ss : ∀ b, some t.s = some b → StampAt w b
  sn : ∀ b, t.d = some b → StampAt w b

theorem MapAt.upd {w w' : World} {b : Option Nat} {es : List MapEntry} (h : MapAt w b es) {X : Nat → Prop} (hu : Upd X w w') (hX : ∀ c, b = some c → ¬ X c) : MapAt w' b es := by
  cases b with
  | none => exact h
  | some b =>
    obtain ⟨e, c, hb, he⟩ := h
    exact ⟨e, c, by rw [hu.block b (Array.getElem?_eq_some_iff.1 hb).1 (hX b rfl)]; exact hb, he⟩
theorem MapAt.stamp {w w' : World} {b : Option Nat} {es : List MapEntry} (h : MapAt w b es) (hs : ∀ b', b = some b' → StampAt w b') {X : Nat → Prop} (hu : Upd X w w') (hX : ∀ c, b = some c → ¬ X c) : ∀ b', b = some b' → StampAt w' b' := by
  intro b' hb'
  subst hb'
  obtain ⟨e, c, hb, _⟩ := h
  intro es c hes
  rw [hu.block b' (Array.getElem?_eq_some_iff.1 hb).1 (hX b' rfl)] at hes
  exact hs b' rfl es c hes
theorem turned_stamp {w w' : World} {b : Nat} {es' : Array MapEntry} {c' : Nat} (T : Turned w w' b es' c') {es : List MapEntry} (h : MapAt w (some b) es) (hs : ∀ b', some b = some b' → StampAt w b') : ∀ b', some b = some b' → StampAt w' b' := by
  intro b' hb'
  obtain rfl := Option.some.inj hb'
  obtain ⟨e, c, hb, _⟩ := h
  intro es c2 hes
  rw [T.1] at hes
  cases hes
  exact T.2 e c hb (hs b rfl e c hb)
theorem stamp_new {w : World} {b c : Nat} (h : w.heap[b]? = some (.map #[] c)) : StampAt w b := by
  intro es c2 hes
  rw [h] at hes
  cases hes
  exact stamps_nil _
theorem MapAt.lt {w : World} {b : Nat} {es : List MapEntry} (h : MapAt w (some b) es) : b < w.heap.size := by
  obtain ⟨e, c, hb, _⟩ := h
  exact (Array.getElem?_eq_some_iff.1 hb).1
theorem owns_upd {w w' : World} {base size n : Nat} {e : TypeId} {v : Value} {xs : List Value} (h : w.ownsRow base e size v n xs) {X : Nat → Prop} (hu : Upd X w w') (hX : ∀ c, v.ownBlock = some c → ¬ X c) : w'.ownsRow base e size v n xs := by
  refine ⟨h.1, ?_⟩
  rcases h.2 with hn | ⟨g, cap, cur, rfl, hb, hg, r⟩
  · exact .inl hn
  · exact .inr ⟨g, cap, cur, rfl, hb, by rw [hu.block g (Array.getElem?_eq_some_iff.1 hg).1 (hX g rfl)]; exact hg, r⟩
theorem owns_lt {w : World} {base size n : Nat} {e : TypeId} {v : Value} {xs : List Value} (h : w.ownsRow base e size v n xs) {c : Nat} (hc : v.ownBlock = some c) : ∃ cur, w.heap[c]? = some (.cells cur e (0, 0)) := by
  rcases h.2 with ⟨rfl, _⟩ | ⟨g, cap, cur, rfl, hb, hg, r⟩
  · cases hc
  · obtain rfl : g = c := Option.some.inj hc
    exact ⟨cur, hg⟩

theorem Tab.upd {w w' : World} {t : Tbs} {mt : Value} {S : St} {ks : List Value} {ix : List MapEntry} (h : Tab w t mt S ks ix) {X : Nat → Prop} (hu : Upd X w w') (hX : ∀ c, Fp t c → ¬ X c) : Tab w' t mt S ks ix where
  tb := hu.blk h.tb (hX _ (.inl rfl))
  ar := owns_upd h.ar hu (fun c hc => hX c (.inr (.inl hc)))
  nm := h.nm.upd hu (fun c hc => hX c (.inr (.inr (.inl hc))))
  sn := h.nm.stamp h.sn hu (fun c hc => hX c (.inr (.inr (.inl hc))))
  st := h.st.upd hu (fun c hc => hX c (.inr (.inr (.inr (.inl (Option.some.inj hc).symm)))))
  ss := h.st.stamp h.ss hu (fun c hc => hX c (.inr (.inr (.inr (.inl (Option.some.inj hc).symm)))))
  ke := owns_upd h.ke hu (fun c hc => hX c (.inr (.inr (.inr (.inr (.inl hc))))))
  im := h.im.upd hu (fun c hc => hX c (.inr (.inr (.inr (.inr (.inr hc))))))
  kn := h.kn
  an := h.an
  sd := h.sd
  ak := h.ak
  fs := h.fs
  fn := h.fn
  fi := h.fi

theorem Tab.lt {w : World} {t : Tbs} {mt : Value} {S : St} {ks : List Value} {ix : List MapEntry} (h : Tab w t mt S ks ix) {c : Nat} (hc : Fp t c) : c < w.heap.size := by
  rcases hc with rfl | hc | hc | rfl | hc | hc
  · exact h.tb.lt
  · obtain ⟨cur, hg⟩ := owns_lt h.ar hc
    exact (Array.getElem?_eq_some_iff.1 hg).1
  · have := h.nm
    rw [hc] at this
    exact this.lt
  · exact h.st.lt
  · obtain ⟨cur, hg⟩ := owns_lt h.ke hc
    exact (Array.getElem?_eq_some_iff.1 hg).1
  · have := h.im
    rw [hc] at this
    exact this.lt

/-- Which of a table's blocks are not one: T holds a table, the maps maps, the rows values. -/
theorem Tab.T_ne {w : World} {t : Tbs} {mt : Value} {S : St} {ks : List Value} {ix : List MapEntry} (h : Tab w t mt S ks ix) : t.T ≠ t.s ∧ t.d ≠ some t.T ∧ t.i ≠ some t.T ∧ t.a.ownBlock ≠ some t.T ∧ t.k.ownBlock ≠ some t.T := by
  have hT : w.heap[t.T]? = some (.cells (tbl mt t).toArray 89 (0, 0)) := h.tb
  refine ⟨fun e => ?_, fun e => ?_, fun e => ?_, fun e => ?_, fun e => ?_⟩
  · obtain ⟨es, c, hb, _⟩ := h.st
    rw [← e, hT] at hb; cases hb
  · have := h.nm
    rw [e] at this
    obtain ⟨es, c, hb, _⟩ := this
    rw [hT] at hb; cases hb
  · have := h.im
    rw [e] at this
    obtain ⟨es, c, hb, _⟩ := this
    rw [hT] at hb; cases hb
  · obtain ⟨cur, hg⟩ := owns_lt h.ar e
    rw [hT] at hg
    simp at hg
  · obtain ⟨cur, hg⟩ := owns_lt h.ke e
    rw [hT] at hg
    simp at hg
theorem Tab.row_ne {w : World} {t : Tbs} {mt : Value} {S : St} {ks : List Value} {ix : List MapEntry} (h : Tab w t mt S ks ix) : (∀ c, t.a.ownBlock = some c → c ≠ t.s ∧ t.d ≠ some c ∧ t.i ≠ some c) ∧ (∀ c, t.k.ownBlock = some c → c ≠ t.s ∧ t.d ≠ some c ∧ t.i ≠ some c) := by
  have key : ∀ c (cur : Array Value), w.heap[c]? = some (.cells cur 49 (0, 0)) → c ≠ t.s ∧ t.d ≠ some c ∧ t.i ≠ some c := fun c cur hg => by
    refine ⟨fun e => ?_, fun e => ?_, fun e => ?_⟩
    · obtain ⟨es, c', hb, _⟩ := h.st
      rw [← e, hg] at hb; cases hb
    · have := h.nm
      rw [e] at this
      obtain ⟨es, c', hb, _⟩ := this
      rw [hg] at hb; cases hb
    · have := h.im
      rw [e] at this
      obtain ⟨es, c', hb, _⟩ := this
      rw [hg] at hb; cases hb
  refine ⟨fun c hc => ?_, fun c hc => ?_⟩
  · obtain ⟨cur, hg⟩ := owns_lt h.ar hc
    exact key c cur hg
  · obtain ⟨cur, hg⟩ := owns_lt h.ke hc
    exact key c cur hg

theorem fine_nil (eqv : Value → Value → Bool) (D : Value → Prop) : Fine eqv D [] := ⟨fun e he => absurd he (by simp), List.Pairwise.nil⟩

/-- A fresh table holds nothing. -/
theorem Tab.new {w w' : World} {T A m : Nat} (h : NewT w w' T A m) : Tab w' ⟨T, .slice (some ⟨A, 0, none⟩) 0 32, none, m, .slice none 0 0, none⟩ nilw ⟨[], [], []⟩ [] [] where
  tb := h.tb
  ar := ⟨rfl, .inr ⟨A, 32, _, rfl, Nat.zero_le _, h.ar, Nat.zero_le _, by unfold maxLen; omega, by simp [tab_length], rfl⟩⟩
  nm := rfl
  st := ⟨#[], 0, h.mp, rfl⟩
  ke := ⟨rfl, .inl ⟨rfl, rfl⟩⟩
  im := rfl
  kn := ⟨fun _ => rfl, fun _ => rfl⟩
  an := fun e => by cases e
  sd := ⟨by simp, by simp, by simp⟩
  ak := fun b _ => by simp [Value.ownBlock]
  fs := fine_nil _ _
  fn := fine_nil _ _
  fi := fine_nil _ _
  ss := fun b hb => by
    obtain rfl := Option.some.inj hb
    exact stamp_new h.mp
  sn := fun b hb => by cases hb
theorem new_fp {w w' : World} {T A m : Nat} (h : NewT w w' T A m) : ∀ c, Fp ⟨T, .slice (some ⟨A, 0, none⟩) 0 32, none, m, .slice none 0 0, none⟩ c → w.heap.size ≤ c := by
  intro c hc
  have ho := h.old
  rcases hc with rfl | hc | hc | rfl | hc | hc
  · exact ho.1
  · have := Option.some.inj hc
    have this : A = c := this
    omega
  · cases hc
  · exact ho.2.2.1
  · cases hc
  · cases hc
end Go.Proofs.YtlmadbgpllokfaaGreatFmt
