/- Operations of the laws on RawGet: rows of five cells; copies, guards, stores, look-ups: walked. -/
import Derived.Test.YtlmadbgpllokfaaGreatFmtSkn
import Derived.Test.YtlmadbgpllokfaaGreatFmtLwa
import Derived.Deep.MidRow
import Derived.StillTailTactics
namespace Go.Proofs.YtlmadbgpllokfaaGreatFmt
open Go.RowKit Go.Mapy Go.Tbl
set_option maxRecDepth 100000

structure Rop where
  s : Bool
  n : Nat
  k : ByteArray
  v : ByteArray
  d : Bool
def Rop.cells (o : Rop) : List Value := [.bool o.s, .float .f64 o.n, .string o.k, .string o.v, .bool o.d]
def Rop.zero : Rop := ⟨false, 0, ByteArray.empty, ByteArray.empty, false⟩
theorem Rop.one (o : Rop) : ∀ v ∈ o.cells, v.oneCell' = true := by
  intro v hv
  unfold Rop.cells at hv
  simp only [List.mem_cons, List.not_mem_nil, or_false] at hv
  rcases hv with rfl | rfl | rfl | rfl | rfl <;> rfl
/-- The key that an operation names, and what it stores. -/
def Rop.key (o : Rop) : Key := if o.s then .str o.k else .num o.n
def Rop.val (o : Rop) : Value := if o.d then nilw else .iface 78 (.string o.v)
theorem Rop.val_val (o : Rop) : Val o.val o.d := by
  unfold Rop.val
  cases o.d
  · exact .inr ⟨rfl, _, _, rfl, by decide, rfl⟩
  · exact .inl ⟨rfl, rfl⟩

/-- k rows of five cells. -/
def rops (k : Nat) (f : Nat → Rop) : List Value := (tab k fun j => (f j).cells).flatten
theorem flat5_length : ∀ (l : List (List Value)), (∀ x ∈ l, x.length = 5) → l.flatten.length = l.length * 5
  | [], _ => rfl
  | x :: r, h => by
    rw [List.flatten_cons, List.length_append, h x (by simp), flat5_length r (fun y hy => h y (by simp [hy])), List.length_cons]
    omega
theorem flat5_at : ∀ (l : List (List Value)), (∀ x ∈ l, x.length = 5) → ∀ (q c : Nat) (x : List Value), l[q]? = some x → c < 5 → l.flatten[q * 5 + c]? = x[c]?
  | [], _, q, c, x, hq, _ => by simp at hq
  | y :: r, h, 0, c, x, hq, hc => by
    have hy := h y (by simp)
    simp only [List.getElem?_cons_zero, Option.some.injEq] at hq
    subst hq
    rw [List.flatten_cons, List.getElem?_append_left (by omega), Nat.zero_mul, Nat.zero_add]
  | y :: r, h, q + 1, c, x, hq, hc => by
    have hy := h y (by simp)
    rw [List.flatten_cons, List.getElem?_append_right (by omega), show (q + 1) * 5 + c - y.length = q * 5 + c by omega]
    exact flat5_at r (fun z hz => h z (by simp [hz])) q c x (by simpa using hq) hc
theorem rops_five (k : Nat) (f : Nat → Rop) : ∀ x ∈ tab k fun j => (f j).cells, x.length = 5 := fun x hx => by
  obtain ⟨i, hi, rfl⟩ := List.mem_map.1 hx
  rfl
theorem rops_length (k : Nat) (f : Nat → Rop) : (rops k f).length = k * 5 := by
  unfold rops
  rw [flat5_length _ (rops_five k f), tab_length]
theorem rops_at {k : Nat} {f : Nat → Rop} {i c : Nat} (hi : i < k) (hc : c < 5) : (rops k f)[i * 5 + c]? = (f i).cells[c]? :=
  flat5_at _ (rops_five k f) i c _ (tab_in hi) hc
theorem rops_over {k : Nat} {f : Nat → Rop} {i : Nat} (hi : i < k) (x : Rop) : over (rops k f) (i * 5) x.cells = rops k (fun m => if m = i then x else f m) := by
  apply List.ext_getElem?
  intro o
  obtain ⟨q, j, hj, rfl⟩ : ∃ q j, j < 5 ∧ o = q * 5 + j := ⟨o / 5, o % 5, by omega, by omega⟩
  rw [over_at, rops_length k f, show x.cells.length = 5 from rfl]
  by_cases hq : q < k
  · rw [rops_at (f := fun m => if m = i then x else f m) hq hj]
    by_cases h : q = i
    · subst h
      rw [if_pos ⟨by omega, by omega, by omega⟩, if_pos rfl]
      congr 1; omega
    · rw [if_neg (by omega), if_neg h, rops_at hq hj]
  · rw [if_neg (by omega), List.getElem?_eq_none (by rw [rops_length k f]; omega), List.getElem?_eq_none (by rw [rops_length k]; omega)]
theorem rops_congr {k : Nat} {f g : Nat → Rop} (h : ∀ m, m < k → f m = g m) : rops k f = rops k g := by
  unfold rops
  rw [tab_congr fun m hm => by rw [h m hm]]

theorem rops_step (k j : Nat) (f : Nat → Rop) : rops k (fun m => if m < j + 1 then f m else Rop.zero) = rops k (fun m => if m = j then f j else if m < j then f m else Rop.zero) := rops_congr fun m _ => by
  by_cases e : m = j
  · subst e; simp
  · by_cases e2 : m < j
    · rw [if_pos (by omega), if_neg e, if_pos e2]
    · rw [if_neg (by omega), if_neg e, if_neg e2]

/-- The operations that a slice shows, in blocks below B. -/
def Rops (w : World) (B : Nat) (a : Option Addr) (k : Nat) (f : Nat → Rop) : Prop := ∀ j, j < k → ∃ b off, a = some ⟨b, off, none⟩ ∧ b < B ∧ w.rangeAt b (off + j * 5) (f j).cells
theorem Rops.upd {w w' : World} {B : Nat} {a : Option Addr} {k : Nat} {f : Nat → Rop} {S : Nat → Prop} (h : Rops w B a k f) (hu : Upd S w w') (hS : ∀ c, S c → B ≤ c) : Rops w' B a k f := fun j hj => by
  obtain ⟨b, off, ha, hb, hc⟩ := h j hj
  refine ⟨b, off, ha, hb, fun i v hv => ?_⟩
  have h1 := hc i v hv
  rw [← h1]
  exact World.cell?_of_block (hu.block _ (World.block_lt_of_cell? w _ h1) (fun hs => by have := hS _ hs; simp at this; omega))
theorem Rops.mono {w : World} {B B' : Nat} {a : Option Addr} {k : Nat} {f : Nat → Rop} (h : Rops w B a k f) (hB : B ≤ B') : Rops w B' a k f := fun j hj => by
  obtain ⟨b, off, ha, hb, hc⟩ := h j hj
  exact ⟨b, off, ha, by omega, hc⟩
/-- An operation, cell by cell. -/
theorem Rops.row {w : World} {B : Nat} {a : Option Addr} {k : Nat} {f : Nat → Rop} (h : Rops w B a k f) {j : Nat} (hj : j < k) : ∃ b off, a = some ⟨b, off, none⟩ ∧ w.rangeAt b (off + j * 5) (f j).cells ∧ w.cell? ⟨b, off + j * 5, none⟩ = some (.bool (f j).s) ∧ w.cell? ⟨b, off + j * 5 + 1, none⟩ = some (.float .f64 (f j).n) ∧ w.cell? ⟨b, off + j * 5 + 2, none⟩ = some (.string (f j).k) ∧ w.cell? ⟨b, off + j * 5 + 3, none⟩ = some (.string (f j).v) ∧ w.cell? ⟨b, off + j * 5 + 4, none⟩ = some (.bool (f j).d) := by
  obtain ⟨b, off, ha, _, hc⟩ := h j hj
  exact ⟨b, off, ha, hc, hc 0 _ rfl, hc 1 _ rfl, hc 2 _ rfl, hc 3 _ rfl, hc 4 _ rfl⟩
theorem Rops.of_blk {w : World} {a : Option Addr} {k b : Nat} {f : Nat → Rop} {t : TypeId} (h : 0 < k → a = some ⟨b, 0, none⟩ ∧ Blk w b (rops k f) t) : Rops w w.heap.size a k f := fun j hj => by
  obtain ⟨ha, hb⟩ := h (by omega)
  refine ⟨b, 0, ha, hb.lt, ?_⟩
  rw [Nat.zero_add]
  exact hb.range (j * 5) _ (fun c hc => rops_at hj hc)

theorem info_rop : (Tryz.prog.info? 28).map (·.size) = some 5 := by kernel_rfl
theorem mk_rops (k : Nat) (hk : k ≤ 4096) (w : World) : (Instr.makeSlice 22 (.int .i64 (k : Int)) (.int .i64 (k : Int))).run Tryz.prog w = .ok (.slice (some ⟨w.heap.size, 0, none⟩) k k) (w.alloc (.cells (rops k fun _ => Rop.zero).toArray 28)) := by
  have h := run_made (P := Tryz.prog) 22 28 (.agg Rop.zero.cells.toArray) 56 Tryz.underlying22 (by kernel_rfl) (by decide) k (by omega) (by omega) w
  have e : rops k (fun _ => Rop.zero) = (List.replicate k Rop.zero.cells).flatten := by
    unfold rops
    rw [← tab_rep]
  rw [e]
  exact h
@[go_sem] theorem sn_rops (w : World) (a : Option Addr) (n c : Nat) : (binOp .eql 22 (.slice a n c) (.slice none 0 0)).run Tryz.prog w = .ok (.bool a.isNone) w := Lib.run_eql_slice_nil w 22 28 a n c 0 0 Tryz.underlying22

set_option maxHeartbeats 1600000 in
theorem clone_ops (a : Option Addr) (k c : Nat) (f : Nat → Rop) (w : World) (hk : k ≤ 4096) (B : Nat) (hc : Rops w B a k f) :
    Calls Tryz.prog 14 #[.slice a k c] w fun e w' => ∃ a' c', e = .returned (.slice a' k c') ∧ Upd (fun _ => False) w w' ∧ Rops w' w'.heap.size a' k f := by
  have hm := mk_rops k hk
  have HC := Lib.hid hc
  clear hc
  cases a with
  | none =>
    have hk0 : k = 0 := by
      rcases Nat.eq_zero_or_pos k with h | h
      · exact h
      · obtain ⟨b, off, h1, _⟩ := HC.out 0 h
        cases h1
    subst hk0
    go_enter Tryz.func14, Tryz.ntmps14
    go_wp2
    go_ret
    exact ⟨none, 0, rfl, Upd.refl _ _, fun j hj => absurd hj (by omega)⟩
  | some a0 =>
    go_enter Tryz.func14, Tryz.ntmps14
    go_wp2
    go_loopw [4] (fun i wr => ∃ j : Nat, j ≤ k ∧ i = .int .i64 j ∧ Upd (fun _ => False) w wr ∧ Blk wr w.heap.size (rops k fun m => if m < j then f m else Rop.zero) 28) (fun i _ => k - (intOf i).toNat)
    case atStart => exact ⟨0, Nat.zero_le _, rfl, (Upd.refl _ _).alloc _, by rw [rops_congr (g := fun _ => Rop.zero) (fun m _ => if_neg (by omega))]; exact Blk.new _ _ _⟩
    case round =>
      obtain ⟨j, hj, rfl, hu, hb⟩ := hrel
      have HB := Lib.hid hb
      have HU := Lib.hid hu
      clear hu hb
      by_cases hlt : j < k
      · obtain ⟨b, off, ha0, hr, _⟩ := (HC.out.upd HU.out (fun c h => h.elim)).row hlt
        obtain rfl := Option.some.inj ha0
        have HR := Lib.hid hr
        have HT := Lib.hid (HB.out.there (j * 5) 5 (by rw [rops_length]; omega))
        have i1 : (0 : Int) ≤ (j : Int) := by omega
        clear hr ha0
        go_wp2_with (first | (refine wpList_load_mid rfl 28 (.tmp 20) rfl b (off + j * 5) rfl (f j).cells _ HR.out Tryz.underlying28 rfl info_rop ?_) | (refine wpList_store_mid rfl 28 (.tmp 22) (.tmp 21) rfl w.heap.size (j * 5) (f j).cells.toArray rfl rfl HT.out info_rop (all_oneCell_toArray (f j).one) ?_; go_must (obtain ⟨W2, hW2⟩ : ∃ W2, W2 = wr.setCells w.heap.size (j * 5) (f j).cells.toArray.toList := ⟨_, rfl⟩; rw [← hW2]; have UW := Lib.hid (show Upd (fun _ => False) w W2 by rw [hW2]; exact HU.out.setCells _ _ _ (.inr (Nat.le_refl _))); have BW := Lib.hid (show Blk W2 w.heap.size (rops k fun m => if m < j + 1 then f m else Rop.zero) 28 by rw [hW2]; have h0 := HB.out.sets (j * 5) (f j).cells; rw [rops_over hlt] at h0; rw [rops_step]; exact h0); clear hW2)))
        go_roundw
        case rel => exact ⟨j + 1, by omega, by go_num, UW.out, BW.out⟩
        case measure => simp [intOf]; omega
      · obtain rfl : j = k := by omega
        go_wp2
        go_ret
        refine ⟨some ⟨w.heap.size, 0, none⟩, j, rfl, HU.out, Rops.of_blk (b := w.heap.size) (t := 28) fun _ => ⟨rfl, ?_⟩⟩
        have := HB.out
        rw [rops_congr (g := f) (fun m hm => if_pos hm)] at this
        exact this

/-- What the guard on stores says of a key. -/
def Sto (o : Rop) : Prop := o.s = false → (FloatKind.f64.format.order o.n o.n == some .eq) = true ∧ ∀ k, Fl.akey o.n = some k → k ≤ 65536

set_option maxHeartbeats 1600000 in
theorem storable (o : Rop) (w : World) : Calls Tryz.prog 13 #[.agg o.cells.toArray] w fun e w' => ∃ b, e = .returned (.bool b) ∧ Upd (fun _ => False) w w' ∧ (b = true → Sto o) := by
  have U0 := Lib.hid (show Upd (fun _ => False) w (w.alloc (.cells o.cells.toArray 28)) from (Upd.refl _ _).alloc _)
  have hc0 : (w.alloc (.cells o.cells.toArray 28)).cell? ⟨w.heap.size, 0, none⟩ = some (.bool o.s) := (Blk.new w o.cells 28).at (o := 0) rfl
  have hc1 : (w.alloc (.cells o.cells.toArray 28)).cell? ⟨w.heap.size, 1, none⟩ = some (.float .f64 o.n) := (Blk.new w o.cells 28).at (o := 1) rfl
  cases hs : o.s with
  | true =>
    rw [hs] at hc0
    have SO := Lib.hid (show Sto o from fun h => by rw [hs] at h; cases h)
    clear hc1
    go_enter Tryz.func13, Tryz.ntmps13
    go_wp2
    go_ret
    exact ⟨true, rfl, U0.out, fun _ => SO.out⟩
  | false =>
    rw [hs] at hc0
    by_cases hnan : (FloatKind.f64.format.order o.n o.n == some .eq) = true
    · have hna : (FloatKind.f64.format.order o.n o.n != some .eq) = false := by simpa [bne] using hnan
      have NAN := Lib.hid hnan
      clear hnan hs
      cases g1 : (FloatKind.f64.format.order o.n 4679240012837945344 == some .gt) with
      | false =>
        have SO := Lib.hid (show Sto o from fun _ => ⟨NAN.out, fun k hk => by
          rcases Nat.lt_or_ge 65536 k with h | h
          · have := Fl.akey_gt hk h
            rw [Fl.near_65536] at this
            rw [show FloatKind.f64.format = Ieee.double from rfl, this] at g1
            cases g1
          · exact h⟩)
        go_enter Tryz.func13, Tryz.ntmps13
        go_wp2
        go_ret
        exact ⟨true, rfl, U0.out, fun _ => SO.out⟩
      | true =>
        cases g2 : (FloatKind.f64.format.order o.n 4724276009111650304 == some .lt) with
        | false =>
          have SO := Lib.hid (show Sto o from fun _ => ⟨NAN.out, fun k hk => by
            have := Fl.akey_lt hk
            rw [Fl.near_67108864] at this
            rw [show FloatKind.f64.format = Ieee.double from rfl, this] at g2
            cases g2⟩)
          go_enter Tryz.func13, Tryz.ntmps13
          go_wp2
          go_ret
          exact ⟨true, rfl, U0.out, fun _ => SO.out⟩
        | true =>
          obtain ⟨z, hz⟩ := Fl.between_val (b := o.n) (by rw [Fl.near_65536]; exact beq_iff_eq.1 g1) (by rw [Fl.near_67108864]; exact beq_iff_eq.1 g2)
          have hcv : ∀ w, (convert 26 2 (.float .f64 o.n)).run Tryz.prog w = .ok (.int .i64 z) w := fun w => run_convert_float_int _ _ _ _ _ _ _ (by rw [Tryz.underlying26]; rfl) Tryz.underlying2 hz
          have hci := run_i2f 2 26 Tryz.underlying2 Tryz.underlying26 z
          cases g3 : (FloatKind.f64.format.order o.n (FloatKind.f64.nearest z) == some .eq) with
          | true =>
            clear hz
            go_enter Tryz.func13, Tryz.ntmps13
            go_wp2
            go_ret
            exact ⟨false, rfl, U0.out, fun h => by cases h⟩
          | false =>
            have SO := Lib.hid (show Sto o from fun _ => ⟨NAN.out, fun k hk => by
              have h1 := Fl.key_val hk
              rw [hz] at h1
              have h2 := Fl.akey_self hk
              rw [← Option.some.inj h1] at h2
              rw [show FloatKind.f64.format = Ieee.double from rfl, h2] at g3
              cases g3⟩)
            clear hz
            go_enter Tryz.func13, Tryz.ntmps13
            go_wp2
            go_ret
            exact ⟨true, rfl, U0.out, fun _ => SO.out⟩
    · have hna : (FloatKind.f64.format.order o.n o.n != some .eq) = true := by simpa [bne] using hnan
      clear hnan
      go_enter Tryz.func13, Tryz.ntmps13
      go_wp2
      go_ret
      exact ⟨false, rfl, U0.out, fun h => by cases h⟩
end Go.Proofs.YtlmadbgpllokfaaGreatFmt
