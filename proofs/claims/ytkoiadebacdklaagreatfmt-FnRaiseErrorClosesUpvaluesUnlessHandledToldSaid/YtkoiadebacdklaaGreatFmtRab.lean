/- raiseError at level 0 without arguments: walked. -/
import Derived.Test.YtkoiadebacdklaaGreatFmtRaa
namespace Go.Proofs.YtkoiadebacdklaaGreatFmt
open Go.RowKit
set_option maxRecDepth 100000

theorem upd_new {S T : Nat → Prop} {a b c : World} (h : Upd S a b) (k : Upd T b c) (hT : ∀ i, i < b.heap.size → T i → S i ∨ a.heap.size ≤ i) : Upd S a c :=
  ⟨k.os.trans h.os, k.tape.trans h.tape, k.output.trans h.output, Nat.le_trans h.size k.size, fun i hi hs => (k.block i (Nat.lt_of_lt_of_le hi h.size) (fun ht => by
    rcases hT i (Nat.lt_of_lt_of_le hi h.size) ht with h1 | h1
    · exact hs h1
    · omega)).trans (h.block i hi hs)⟩

set_option maxHeartbeats 400000 in
theorem reg_push (R A cap top : Nat) (v : Nat → Value) (s : ByteArray) (w : World) (ht : top < cap) (_hc : cap ≤ 131073) (hne : A ≠ R) (h : Blk w R (regs2 A cap top) 123) (hA : Blk w A (tab cap v) 101) :
    Calls Tryz.prog 80 #[.pointer (some ⟨R, 0, none⟩), sv s] w fun e w' => e = .returned (.tuple #[]) ∧ Upd (fun c => c = R ∨ c = A) w w' ∧ Blk w' R (regs2 A cap (top + 1)) 123 ∧ Blk w' A (tab cap fun m => if m = top then sv s else v m) 101 := by
  have g0 := h.at (o := 0) rfl
  have g1 := h.at (o := 1) rfl
  have gf := h.free 1
  have c := hA.at (tab_in ht)
  have cf := hA.free top
  have H := Lib.hid h
  have HA := Lib.hid hA
  have i1 : (0 : Int) ≤ (top : Int) := by omega
  have i2 : (top : Int) < (cap : Int) := by omega
  have hw : IntKind.i64.wrap ((top : Int) + 1) = (top : Int) + 1 := IntWalk.i64_in _ (by omega)
  have hRA : R ≠ A := fun e => hne e.symm
  clear h hA
  unfold sv
  go_enter Tryz.func80, Tryz.ntmps80
  go_wp2
  go_region
  go_wp2
  go_end0
  refine ⟨rfl, (((Upd.refl (fun c => c = R ∨ c = A) w).setCell ⟨A, top, none⟩ _ (.inl (.inr rfl))).setCell ⟨R, 1, none⟩ _ (.inl (.inl rfl))).drew, ((H.out.set_other _ _ hRA).set 1 _).drew, ?_⟩
  have h := ((HA.out.set top (sv s)).set_other ⟨R, 1, none⟩ (.int .i64 ((top : Int) + 1)) hne).drew
  rw [tab_set] at h
  exact h

set_option maxHeartbeats 400000 in
theorem kill (S R A B F cap top k sp : Nat) (cur uv : Option Addr) (err : Bool) (v : Nat → Value) (fr : Nat → List Value) (w : World) (h : S2 w S R A B F cap top k sp cur uv false err v fr) :
    Calls Tryz.prog 57 #[.pointer (some ⟨S, 0, none⟩)] w fun e w' => e = .returned (.tuple #[]) ∧ Upd (fun c => c = S) w w' ∧ S2 w' S R A B F cap top k sp cur uv true err v fr := by
  have s4 := h.st.at (o := 4) rfl
  have sf := h.st.free 4
  have H := Lib.hid h
  clear h
  go_enter Tryz.func57, Tryz.ntmps57
  go_wp2
  go_end0
  have d := H.out.dis
  exact ⟨rfl, Upd.setCell (S := fun c => c = S) (Upd.refl _ _) ⟨S, 4, none⟩ _ (Or.inl rfl), d, H.out.st.set 4 _, H.out.rg.set_other _ _ (by show R ≠ S; omega), H.out.ar.set_other _ _ (by show A ≠ S; omega), H.out.fs.set_other _ _ (by show F ≠ S; omega), H.out.sk.set_other _ _ (by show B ≠ S; omega)⟩

/-- What raising leaves. -/
def Raised (S R A B F cap top k sp : Nat) (cur uv : Option Addr) (err : Bool) (v : Nat → Value) (fr : Nat → List Value) (s : ByteArray) (w w' : World) : Prop :=
  ∃ A' cap', top < cap' ∧ cap' ≤ cap + 1 ∧ (A' = A ∨ w.heap.size ≤ A') ∧ Upd (fun c => c = S ∨ c = R ∨ c = A) w w' ∧ S2 w' S R A' B F cap' (top + 1) k sp cur uv true err (fun m => if m = top then sv s else v m) fr

/-- What closing leaves of the state: T may have changed, Q holds. -/
def Mid (S R A B F cap top k sp : Nat) (cur : Option Addr) (v : Nat → Value) (fr : Nat → List Value) (T : Nat → Prop) (Q : Option Addr → World → Prop) (w : World) (e : Ending) (w1 : World) : Prop :=
  e = .returned (.tuple #[]) ∧ ∃ uv1, Upd T w w1 ∧ Q uv1 w1 ∧ S2 w1 S R A B F cap top k sp cur uv1 false false v fr

def RaisedBy (S R A B F cap top k sp : Nat) (cur uv : Option Addr) (err : Bool) (v : Nat → Value) (fr : Nat → List Value) (T : Nat → Prop) (Q : Option Addr → World → Prop) (s : ByteArray) (w : World) (e : Ending) (w' : World) : Prop :=
  e = .returned (.tuple #[]) ∧ ∃ uv1 w1, ((err = true ∧ uv1 = uv ∧ w1 = w) ∨ (err = false ∧ Upd T w w1 ∧ Q uv1 w1)) ∧ Raised S R A B F cap top k sp cur uv1 err v fr s w1 w'

set_option maxHeartbeats 1600000 in
theorem raise_error (S R A B F cap top k sp : Nat) (cur uv : Option Addr) (err : Bool) (v : Nat → Value) (fr : Nat → List Value) (T : Nat → Prop) (Q : Option Addr → World → Prop) (s : ByteArray) (w : World) (hcap : cap ≤ 131072) (ht : top ≤ cap) (h1 : One v cap)
    (h : S2 w S R A B F cap top k sp cur uv false err v fr) (hcl : err = false → Calls Tryz.prog 63 #[.pointer (some ⟨S, 0, none⟩)] w (Mid S R A B F cap top k sp cur v fr T Q w)) :
    Calls Tryz.prog 58 #[.pointer (some ⟨S, 0, none⟩), .int .i64 0, .string s, .slice none 0 0] w (RaisedBy S R A B F cap top k sp cur uv err v fr T Q s w) := by
  have HS := Lib.hid h
  have H1 := Lib.hid h1
  have s19 := h.st.at (o := 19) rfl
  clear h h1
  cases err with
  | true =>
    clear hcl
    go_enter Tryz.func58, Tryz.ntmps58
    have s13 := HS.out.st.at (o := 13) rfl
    go_wp2_with fail
    refine (is_full R A cap top _ HS.out.rg).mono ?_
    rintro e w' ⟨rfl, n, rfl⟩
    have HS := Lib.hid (show S2 (w.drewN n) S R A B F cap top k sp cur uv false true v fr from ⟨HS.out.dis, HS.out.st, HS.out.rg, HS.out.ar, HS.out.fs, HS.out.sk⟩)
    have UP := Lib.hid (show Upd (fun c => c = S ∨ c = R ∨ c = A) w (w.drewN n) from (Upd.refl _ _).drewN n)
    clear s13
    generalize w.drewN n = w2 at *
    have s13 := HS.out.st.at (o := 13) rfl
    by_cases hf : cap ≤ top
    · obtain rfl : top = cap := by omega
      have hd : decide (top ≤ top) = true := decide_eq_true (Nat.le_refl _)
      rw [hd]
      clear hd hf
      go_wp2_with fail
      refine wp_region_tail_at 10 (by kernel_rfl) (by kernel_rfl) (fun w8 hW8 => ?_)
      have HS8 := Lib.hid (show S2 w8 S R A B F top top k sp cur uv false true v fr by rw [hW8]; exact ⟨HS.out.dis, HS.out.st, HS.out.rg, HS.out.ar, HS.out.fs, HS.out.sk⟩)
      have UP8 := Lib.hid (show Upd (fun c => c = S ∨ c = R ∨ c = A) w w8 by rw [hW8]; exact UP.out.drew)
      clear s13 hW8
      have s13 := HS8.out.st.at (o := 13) rfl
      have hw : IntKind.i64.wrap ((top : Int) + 1) = (top : Int) + 1 := IntWalk.i64_in _ (by omega)
      simp only [List.take_succ_cons, List.take_zero, List.drop_succ_cons, List.drop_zero]
      repeat still_step
      still_call ((reg_top S R A B F top top k sp cur uv false true v fr _ HS8.out).mono (fun _ _ h => ⟨h.1, h.2.symm⟩))
      repeat still_step
      refine wpStill_nil ?_
      go_wp2_with fail
      refine (force_resize R A top v _ hcap H1.out HS8.out.rg HS8.out.ar).mono ?_
      rintro e w3 ⟨rfl, N, hN, hu, hr, ha⟩
      have d := HS8.out.dis
      have hlt : S < w8.heap.size ∧ R < w8.heap.size ∧ A < w8.heap.size ∧ B < w8.heap.size ∧ F < w8.heap.size := ⟨HS8.out.st.lt, HS8.out.rg.lt, HS8.out.ar.lt, HS8.out.sk.lt, HS8.out.fs.lt⟩
      have HS3 := Lib.hid (show S2 w3 S R N B F (top + 1) top k sp cur uv false true (fun m => if m < top then v m else .nilIface) fr from
        ⟨by omega, hu.blk HS8.out.st (by omega), hr, ha, hu.blk HS8.out.fs (by omega), hu.blk HS8.out.sk (by omega)⟩)
      have UP3 := Lib.hid (UP8.out.trans (hu.mono (fun c _ h => .inr (.inl h))))
      have NN := Lib.hid (show w.heap.size ≤ N from Nat.le_trans UP8.out.size hN)
      clear hN hu hr ha d hlt s13
      have s13 := HS3.out.st.at (o := 13) rfl
      go_wp2_with fail
      refine (reg_push R N (top + 1) top _ s _ (by omega) (by omega) (fun e => HS3.out.dis.1 e) HS3.out.rg HS3.out.ar).mono ?_
      rintro e w4 ⟨rfl, hu, hr, ha⟩
      have d := HS3.out.dis
      have HS4 := Lib.hid (show S2 w4 S R N B F (top + 1) (top + 1) k sp cur uv false true (fun m => if m = top then sv s else v m) fr from
        ⟨d, hu.blk HS3.out.st (by omega), hr, by
          have e : tab (top + 1) (fun m => if m = top then sv s else v m) = tab (top + 1) (fun m => if m = top then sv s else if m < top then v m else .nilIface) := tab_congr (fun m hm => by
            by_cases e : m = top
            · rw [if_pos e, if_pos e]
            · rw [if_neg e, if_neg e, if_pos (by omega)])
          rw [e]; exact ha, hu.blk HS3.out.fs (by omega), hu.blk HS3.out.sk (by omega)⟩)
      have UP4 := Lib.hid (upd_new UP3.out hu (fun c _ h => h.elim (fun h => .inl (.inr (.inl h))) (fun h => .inr (by rw [h]; exact NN.out))))
      clear hu hr ha d s13
      have s3 := HS4.out.st.at (o := 3) rfl
      unfold panicv at s3
      go_wp2_with fail
      refine (kill S R N B F (top + 1) (top + 1) k sp cur uv true _ fr _ HS4.out).mono ?_
      rintro e w5 ⟨rfl, hu, hs⟩
      have HS5 := Lib.hid hs
      have UP5 := Lib.hid (UP4.out.trans (hu.mono (fun c _ h => .inl h)))
      clear hu hs s3
      go_wp2
      go_end0
      exact ⟨rfl, uv, w, .inl ⟨rfl, rfl, rfl⟩, N, top + 1, by omega, by omega, .inr NN.out, UP5.out, HS5.out⟩
    · have hd : decide (cap ≤ top) = false := decide_eq_false hf
      rw [hd]
      clear hd
      go_wp2_with fail
      refine (reg_push R A cap top v s _ (by omega) (by omega) (fun e => HS.out.dis.1 e) HS.out.rg HS.out.ar).mono ?_
      rintro e w4 ⟨rfl, hu, hr, ha⟩
      have d := HS.out.dis
      have HS4 := Lib.hid (show S2 w4 S R A B F cap (top + 1) k sp cur uv false true (fun m => if m = top then sv s else v m) fr from
        ⟨d, hu.blk HS.out.st (by omega), hr, ha, hu.blk HS.out.fs (by omega), hu.blk HS.out.sk (by omega)⟩)
      have UP4 := Lib.hid (UP.out.trans (hu.mono (fun c _ h => .inr h)))
      clear hu hr ha d s13
      have s3 := HS4.out.st.at (o := 3) rfl
      unfold panicv at s3
      go_wp2_with fail
      refine (kill S R A B F cap (top + 1) k sp cur uv true _ fr _ HS4.out).mono ?_
      rintro e w5 ⟨rfl, hu, hs⟩
      have HS5 := Lib.hid hs
      have UP5 := Lib.hid (UP4.out.trans (hu.mono (fun c _ h => .inl h)))
      clear hu hs s3
      go_wp2
      go_end0
      exact ⟨rfl, uv, w, .inl ⟨rfl, rfl, rfl⟩, A, cap, by omega, by omega, .inl rfl, UP5.out, HS5.out⟩
  | false =>
    have CL := Lib.hid (hcl rfl)
    clear hcl
    go_enter Tryz.func58, Tryz.ntmps58
    go_wp2_with fail
    refine CL.out.mono ?_
    rintro e w1 ⟨rfl, uv1, hu1, hq1, hs1⟩
    have HS := Lib.hid hs1
    have QQ := Lib.hid (show Upd T w w1 ∧ Q uv1 w1 from ⟨hu1, hq1⟩)
    clear hu1 hq1 hs1 s19 CL
    have s13 := HS.out.st.at (o := 13) rfl
    go_wp2_with fail
    refine (is_full R A cap top _ HS.out.rg).mono ?_
    rintro e w' ⟨rfl, n, rfl⟩
    have HS := Lib.hid (show S2 (w1.drewN n) S R A B F cap top k sp cur uv1 false false v fr from ⟨HS.out.dis, HS.out.st, HS.out.rg, HS.out.ar, HS.out.fs, HS.out.sk⟩)
    have UP := Lib.hid (show Upd (fun c => c = S ∨ c = R ∨ c = A) w1 (w1.drewN n) from (Upd.refl _ _).drewN n)
    clear s13
    generalize w1.drewN n = w2 at *
    have s13 := HS.out.st.at (o := 13) rfl
    by_cases hf : cap ≤ top
    · obtain rfl : top = cap := by omega
      have hd : decide (top ≤ top) = true := decide_eq_true (Nat.le_refl _)
      rw [hd]
      clear hd hf
      go_wp2_with fail
      refine wp_region_tail_at 10 (by kernel_rfl) (by kernel_rfl) (fun w8 hW8 => ?_)
      have HS8 := Lib.hid (show S2 w8 S R A B F top top k sp cur uv1 false false v fr by rw [hW8]; exact ⟨HS.out.dis, HS.out.st, HS.out.rg, HS.out.ar, HS.out.fs, HS.out.sk⟩)
      have UP8 := Lib.hid (show Upd (fun c => c = S ∨ c = R ∨ c = A) w1 w8 by rw [hW8]; exact UP.out.drew)
      clear s13 hW8
      have s13 := HS8.out.st.at (o := 13) rfl
      have hw : IntKind.i64.wrap ((top : Int) + 1) = (top : Int) + 1 := IntWalk.i64_in _ (by omega)
      simp only [List.take_succ_cons, List.take_zero, List.drop_succ_cons, List.drop_zero]
      repeat still_step
      still_call ((reg_top S R A B F top top k sp cur uv1 false false v fr _ HS8.out).mono (fun _ _ h => ⟨h.1, h.2.symm⟩))
      repeat still_step
      refine wpStill_nil ?_
      go_wp2_with fail
      refine (force_resize R A top v _ hcap H1.out HS8.out.rg HS8.out.ar).mono ?_
      rintro e w3 ⟨rfl, N, hN, hu, hr, ha⟩
      have d := HS8.out.dis
      have hlt : S < w8.heap.size ∧ R < w8.heap.size ∧ A < w8.heap.size ∧ B < w8.heap.size ∧ F < w8.heap.size := ⟨HS8.out.st.lt, HS8.out.rg.lt, HS8.out.ar.lt, HS8.out.sk.lt, HS8.out.fs.lt⟩
      have HS3 := Lib.hid (show S2 w3 S R N B F (top + 1) top k sp cur uv1 false false (fun m => if m < top then v m else .nilIface) fr from
        ⟨by omega, hu.blk HS8.out.st (by omega), hr, ha, hu.blk HS8.out.fs (by omega), hu.blk HS8.out.sk (by omega)⟩)
      have UP3 := Lib.hid (UP8.out.trans (hu.mono (fun c _ h => .inr (.inl h))))
      have NN := Lib.hid (show w1.heap.size ≤ N from Nat.le_trans UP8.out.size hN)
      clear hN hu hr ha d hlt s13
      have s13 := HS3.out.st.at (o := 13) rfl
      go_wp2_with fail
      refine (reg_push R N (top + 1) top _ s _ (by omega) (by omega) (fun e => HS3.out.dis.1 e) HS3.out.rg HS3.out.ar).mono ?_
      rintro e w4 ⟨rfl, hu, hr, ha⟩
      have d := HS3.out.dis
      have HS4 := Lib.hid (show S2 w4 S R N B F (top + 1) (top + 1) k sp cur uv1 false false (fun m => if m = top then sv s else v m) fr from
        ⟨d, hu.blk HS3.out.st (by omega), hr, by
          have e : tab (top + 1) (fun m => if m = top then sv s else v m) = tab (top + 1) (fun m => if m = top then sv s else if m < top then v m else .nilIface) := tab_congr (fun m hm => by
            by_cases e : m = top
            · rw [if_pos e, if_pos e]
            · rw [if_neg e, if_neg e, if_pos (by omega)])
          rw [e]; exact ha, hu.blk HS3.out.fs (by omega), hu.blk HS3.out.sk (by omega)⟩)
      have UP4 := Lib.hid (upd_new UP3.out hu (fun c _ h => h.elim (fun h => .inl (.inr (.inl h))) (fun h => .inr (by rw [h]; exact NN.out))))
      clear hu hr ha d s13
      have s3 := HS4.out.st.at (o := 3) rfl
      unfold panicv at s3
      go_wp2_with fail
      refine (kill S R N B F (top + 1) (top + 1) k sp cur uv1 false _ fr _ HS4.out).mono ?_
      rintro e w5 ⟨rfl, hu, hs⟩
      have HS5 := Lib.hid hs
      have UP5 := Lib.hid (UP4.out.trans (hu.mono (fun c _ h => .inl h)))
      clear hu hs s3
      go_wp2
      go_end0
      exact ⟨rfl, uv1, w1, .inr ⟨rfl, QQ.out.1, QQ.out.2⟩, N, top + 1, by omega, by omega, .inr NN.out, UP5.out, HS5.out⟩
    · have hd : decide (cap ≤ top) = false := decide_eq_false hf
      rw [hd]
      clear hd
      go_wp2_with fail
      refine (reg_push R A cap top v s _ (by omega) (by omega) (fun e => HS.out.dis.1 e) HS.out.rg HS.out.ar).mono ?_
      rintro e w4 ⟨rfl, hu, hr, ha⟩
      have d := HS.out.dis
      have HS4 := Lib.hid (show S2 w4 S R A B F cap (top + 1) k sp cur uv1 false false (fun m => if m = top then sv s else v m) fr from
        ⟨d, hu.blk HS.out.st (by omega), hr, ha, hu.blk HS.out.fs (by omega), hu.blk HS.out.sk (by omega)⟩)
      have UP4 := Lib.hid (UP.out.trans (hu.mono (fun c _ h => .inr h)))
      clear hu hr ha d s13
      have s3 := HS4.out.st.at (o := 3) rfl
      unfold panicv at s3
      go_wp2_with fail
      refine (kill S R A B F cap (top + 1) k sp cur uv1 false _ fr _ HS4.out).mono ?_
      rintro e w5 ⟨rfl, hu, hs⟩
      have HS5 := Lib.hid hs
      have UP5 := Lib.hid (UP4.out.trans (hu.mono (fun c _ h => .inl h)))
      clear hu hs s3
      go_wp2
      go_end0
      exact ⟨rfl, uv1, w1, .inr ⟨rfl, QQ.out.1, QQ.out.2⟩, A, cap, by omega, by omega, .inl rfl, UP5.out, HS5.out⟩
end Go.Proofs.YtkoiadebacdklaaGreatFmt
