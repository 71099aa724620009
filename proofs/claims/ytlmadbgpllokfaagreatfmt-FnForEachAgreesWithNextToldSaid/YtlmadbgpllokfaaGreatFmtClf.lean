/- The callback of FnForEachAgreesWithNext: two rows in captured variables grow: walked. -/
import Derived.Test.YtlmadbgpllokfaaGreatFmtFem
import Derived.Test.YtlmadbgpllokfaaGreatFmtFrb
namespace Go.Proofs.YtlmadbgpllokfaaGreatFmt
open Go.RowKit Go.Mapy Go.Tbl
set_option maxRecDepth 100000

/-- A captured variable that holds a row of the call's own. -/
structure Row1 (w : World) (B : Nat) (sl : Value) (xs : List Value) : Prop where
  var : Blk w B [sl] 84
  row : w.ownsRow 0 49 1 sl xs.length xs
theorem Row1.upd {w w' : World} {B : Nat} {sl : Value} {xs : List Value} (h : Row1 w B sl xs) {X : Nat → Prop} (hu : Upd X w w') (hB : ¬ X B) (hs : ∀ c, sl.ownBlock = some c → ¬ X c) : Row1 w' B sl xs :=
  ⟨hu.blk h.var hB, owns_upd h.row hu hs⟩
theorem Row1.ne {w : World} {B B' : Nat} {sl x : Value} {xs : List Value} (h : Row1 w B sl xs) (hb : Blk w B' [x] 84) : sl.ownBlock ≠ some B' := fun e => by
  obtain ⟨cur, hg⟩ := owns_lt h.row e
  unfold Blk at hb
  rw [hb] at hg
  simp at hg
theorem Row1.lt {w : World} {B : Nat} {sl : Value} {xs : List Value} (h : Row1 w B sl xs) {c : Nat} (hc : sl.ownBlock = some c) : c < w.heap.size := by
  obtain ⟨cur, hg⟩ := owns_lt h.row hc
  exact (Array.getElem?_eq_some_iff.1 hg).1

/-- One value more. -/
theorem row_push {w w4 : World} {o : Obj} {B : Nat} {sl x v' : Value} {xs : List Value} {n : Nat} (h : Row1 w B sl xs) (hg : (w.alloc o).grownBy w4 sl.ownBlock) (hn : n = xs.length + 1) (hown : w4.ownsRow 0 49 1 v' n (xs ++ [x])) (hloc : v'.ownBlock = sl.ownBlock ∨ v'.ownBlock = some (w.alloc o).heap.size) :
    Row1 (w4.setCell ⟨B, 0, none⟩ v') B v' (xs ++ [x]) ∧ Upd (fun c => c = B ∨ sl.ownBlock = some c) w (w4.setCell ⟨B, 0, none⟩ v') ∧ (∀ c, v'.ownBlock = some c → sl.ownBlock = some c ∨ w.heap.size ≤ c) := by
  have hne := h.ne h.var
  have hu1 : Upd (fun c => sl.ownBlock = some c) w w4 := ((Upd.refl _ w).alloc o).trans (upd_grown hg)
  have hu : Upd (fun c => c = B ∨ sl.ownBlock = some c) w (w4.setCell ⟨B, 0, none⟩ v') := (hu1.mono (fun _ _ h => .inr h)).setCell ⟨B, 0, none⟩ _ (.inl (.inl rfl))
  have hv : v'.ownBlock ≠ some B := by
    rcases hloc with h1 | h1
    · rw [h1]; exact hne
    · rw [h1]; intro e; have e := Option.some.inj e; rw [World.size_alloc] at e; have := h.var.lt; omega
  have hb4 : Blk w4 B [sl] 84 := hu1.blk h.var hne
  refine ⟨⟨?_, ?_⟩, hu, fun c hc => ?_⟩
  · exact hb4.set 0 v'
  · rw [List.length_append, List.length_singleton, ← hn]
    exact owns_upd hown ((Upd.refl (fun c => c = B) w4).setCell ⟨B, 0, none⟩ v' (.inl rfl)) (fun c hc e => hv (by rw [hc, e]))
  · rcases hloc with h1 | h1
    · exact .inl (by rw [← h1]; exact hc)
    · right
      rw [h1] at hc
      have := Option.some.inj hc
      rw [World.size_alloc] at this
      omega
theorem row_kept {w w4 : World} {o : Obj} {B : Nat} {sl : Value} {xs : List Value} (h : Row1 w B sl xs) (hg : (w.alloc o).grownBy w4 sl.ownBlock) : Blk w4 B [sl] 84 :=
  (((Upd.refl _ w).alloc o).trans (upd_grown hg)).blk h.var (h.ne h.var)

theorem cell_one_at {w : World} {v : Value} {t : TypeId} {b : Nat} (hb : b = w.heap.size) : ∀ (j : Nat) (u : Value), [v][j]? = some u → (w.alloc (.cells #[v] t)).cell? ((⟨b, 0, none⟩ : Addr).add j) = some u := by
  subst hb
  exact cell_one_new w v t
/-- What the callback leaves. -/
def Pushed (Bk Bv : Nat) (sk sv : Value) (xs ys : List Value) (k v : Value) (w : World) (e : Ending) (w' : World) : Prop :=
  e = .returned (.tuple #[]) ∧ ∃ sk' sv', Row1 w' Bk sk' (xs ++ [k]) ∧ Row1 w' Bv sv' (ys ++ [v]) ∧ (∀ c, sk'.ownBlock = some c → sv'.ownBlock ≠ some c) ∧ Upd (fun c => c = Bk ∨ c = Bv ∨ sk.ownBlock = some c ∨ sv.ownBlock = some c) w w' ∧
    (∀ c, sk'.ownBlock = some c → sk.ownBlock = some c ∨ w.heap.size ≤ c) ∧ (∀ c, sv'.ownBlock = some c → sv.ownBlock = some c ∨ w.heap.size ≤ c)

set_option maxHeartbeats 3200000 in
theorem clo_next (Bk Bv : Nat) (sk sv : Value) (xs ys : List Value) (tk : TypeId) (xk : Value) (tv : TypeId) (xv : Value) (w : World) (h1 : Row1 w Bk sk xs) (h2 : Row1 w Bv sv ys) (hB : Bk ≠ Bv) (hd : ∀ c, sk.ownBlock = some c → sv.ownBlock ≠ some c) (l1 : xs.length ≤ 1048576) (l2 : ys.length ≤ 1048576) :
    Calls Tryz.prog 56 #[.iface tk xk, .iface tv xv, .pointer (some ⟨Bk, 0, none⟩), .pointer (some ⟨Bv, 0, none⟩)] w (Pushed Bk Bv sk sv xs ys (.iface tk xk) (.iface tv xv) w) := by
  obtain ⟨i0, hi0, hz0, hz1, hz2⟩ := info_parts infoLV
  have c1 := h1.var.at (o := 0) rfl
  have f1 := h1.var.free 0
  have c2 := h2.var.at (o := 0) rfl
  have R1 := Lib.hid h1
  have R2 := Lib.hid h2
  have hB2 : Bv ≠ Bk := fun e => hB e.symm
  have HD := Lib.hid hd
  clear h1 h2 hd
  go_enter Tryz.func56, Tryz.ntmps56
  go_wp2_with (first | (at_builtin; refine wpList_append_own_at _ rfl _ _ 84 rfl 0 49 i0 .nilIface 1 16 Tryz.underlying84 hi0 hz0 hz1 hz2 rfl (by decide) _ _ _ rfl (R1.out.row.alloc _) ⟨_, 0, none⟩ 1 1 [.iface tk xk] rfl rfl (cell_one_new _ _ _) (by intro u hu; simp at hu; subst hu; rfl) (by unfold maxLen; omega) (by omega) (Nat.zero_le _) ?_; intro v1 w4 hown hgrow hnil hloc; have P1 := Lib.hid (row_push R1.out hgrow rfl hown hloc); have hk4 := row_kept R1.out hgrow; have c1x := hk4.at (o := 0) rfl; have f1x := hk4.free 0; have c2x := ((((Upd.refl _ w).alloc _).trans (upd_grown hgrow)).blk R2.out.var (R1.out.ne R2.out.var)).at (o := 0) rfl; have Q2 := Lib.hid (R2.out.upd P1.out.2.1 (fun h => h.elim (fun e => hB e.symm) (fun e => R1.out.ne R2.out.var e)) (fun c hc h => h.elim (fun e => R2.out.ne R1.out.var (by rw [hc, e])) (fun e => HD.out c e hc))); have V1 := Lib.hid (row_some hown (by omega)); clear hgrow hnil hloc hown hk4; obtain ⟨g2, cap2, hv2⟩ := V1.out; subst hv2; have hlt4 : Bk < w4.heap.size := World.block_lt_of_cell? w4 ⟨Bk, 0, none⟩ c1x) | (at_builtin; refine wpList_append_own_at _ rfl _ _ 84 rfl 0 49 i0 .nilIface 1 16 Tryz.underlying84 hi0 hz0 hz1 hz2 rfl (by decide) _ _ _ rfl (Q2.out.row.alloc _) ⟨_, 0, none⟩ 1 1 [.iface tv xv] rfl rfl (cell_one_at (by simp)) (by intro u hu; simp at hu; subst hu; rfl) (by unfold maxLen; omega) (by omega) (Nat.zero_le _) ?_; intro v3 w6 hown hgrow hnil hloc; have P2 := Lib.hid (row_push Q2.out hgrow rfl hown hloc); have hk6 := row_kept Q2.out hgrow; have c2y := hk6.at (o := 0) rfl; have f2y := hk6.free 0; have V2 := Lib.hid (row_some hown (by omega)); clear hgrow hnil hloc hown hk6; obtain ⟨g3, cap3, hv3⟩ := V2.out; subst hv3))
  go_end0
  have P1 := P1.out
  have P2 := P2.out
  have Q2 := Q2.out
  refine ⟨rfl, _, _, P1.1.upd P2.2.1 (fun h => h.elim hB (fun e => Q2.ne P1.1.var e)) (fun c hc h => ?_), P2.1, fun c hc h => ?_, ?_, P1.2.2, fun c hc => ?_⟩
  · rcases h with h | h
    · exact P1.1.ne Q2.var (by rw [hc, h])
    · rcases P1.2.2 c hc with h3 | h3
      · exact HD.out c h3 h
      · have := R2.out.lt h
        omega
  · rcases P2.2.2 c h with h3 | h3
    · rcases P1.2.2 c hc with h4 | h4
      · exact HD.out c h4 h3
      · have := R2.out.lt h3
        omega
    · have := P1.1.lt hc
      omega
  · exact upd_more (P1.2.1.mono (fun c _ h => h.elim (fun e => .inl e) (fun e => .inr (.inr (.inl e))))) P2.2.1 (fun c _ h => h.elim (fun e => .inl (.inr (.inl e))) (fun e => .inl (.inr (.inr (.inr e)))))
  · rcases P2.2.2 c hc with h3 | h3
    · exact .inl h3
    · right
      have := P1.2.1.size
      omega
end Go.Proofs.YtlmadbgpllokfaaGreatFmt
