/- Removing the caller's frame, walked. -/
import Derived.Test.YtnmjidkbaohliaaGreatFmtStk2
import Derived.Test.YtnmjidkbaohliaaGreatFmtClone
import Derived.Deep.DeepMust
namespace Go.Proofs.YtnmjidkbaohliaaGreatFmt
open Go.RowKit
set_option maxRecDepth 100000

set_option maxHeartbeats 800000 in
theorem remove_caller (S B A s : Nat) (fs : List Fr) (c q : Fr) (w : World) (hs : s + 1 < fs.length) (hk : fs.length ≤ 4096) (hAB : A ≠ B) (hSA : S ≠ A) (hq : fs[s]? = some q) (hc : fs[s + 1]? = some c)
    (hS : Blk w S (stt B) 108) (hA : Blk w A (enc fs) 71) (hB : Blk w B (stk A fs.length ((s : Int) + 1 + 1)) 141) :
    Calls Tryz.prog 29 #[.pointer (some ⟨S, 0, none⟩)] w fun e w' => e = .returned (.pointer (some ⟨A, s * 10, none⟩)) ∧ Upd (fun b => b = A ∨ b = B) w w' ∧
      Blk w' A (enc (fs.set s ⟨s, q.par, c.pc, c.base, c.nret⟩)) 71 ∧ Blk w' B (stk A fs.length ((s : Int) + 1)) 141 := by
  have h0 := hS.at (o := 14) rfl
  have hpp := hA.at (enc_at fs s 2 q hq (by omega))
  have HQ := Lib.hid hq
  have HC := Lib.hid hc
  have HS := Lib.hid hS
  have HA := Lib.hid hA
  have HB := Lib.hid hB
  clear hS hA hB hq hc
  go_enter Tryz.func29, Tryz.ntmps29
  go_wp2_with (first | (go_at_call 236; refine (stk_sp B A fs.length _ _ (by exact HB.out)).mono ?_; rintro e w' ⟨rfl, rfl⟩) | fail)
  rw [show ((s : Int) + 1 + 1 - 2) = (s : Int) by omega]
  refine (stk_at B A fs.length s _ _ (by omega) (by exact HB.out)).mono ?_
  rintro e w' ⟨rfl, rfl⟩
  go_wp2_with fail
  refine (stk_at B A fs.length (s + 1) _ _ (by omega) (by exact HB.out)).mono ?_
  rintro e w' ⟨rfl, rfl⟩
  have HSS := Lib.hid (show (fs.set s c)[s]? = some c by rw [List.getElem?_set_self (by omega)])
  have hr : w'.rangeAt A ((s + 1) * 10) c.cells := HA.out.range _ _ (fun j hj => enc_at fs (s + 1) j c HC.out hj)
  have HR := Lib.hid hr
  have HT := Lib.hid (HA.out.there (s * 10) c.cells.toArray.size (by rw [enc_length]; show s * 10 + 10 ≤ _; omega))
  clear hr
  go_wp2_with (first | (refine wpList_load_mid rfl 71 (.tmp 28) rfl A ((s + 1) * 10) rfl c.cells _ HR.out Tryz.underlying71 rfl info71 ?_) | (refine wpList_store_mid rfl 71 (.tmp 30) (.tmp 29) rfl A (s * 10) c.cells.toArray rfl rfl HT.out info71 (all_oneCell_toArray (Fr.cells_one c)) ?_; go_must (obtain ⟨W2, hW2⟩ : ∃ W2 : World, w'.setCells A (s * 10) c.cells.toArray.toList = W2 := ⟨_, rfl⟩; rw [hW2]; have UP2 := Lib.hid (show Upd (fun b => b = A ∨ b = B) w' W2 by rw [← hW2]; exact (Upd.refl _ _).setCells _ _ _ (.inl (.inl rfl))); have HA2 := Lib.hid (show Blk W2 A (enc (fs.set s c)) 71 by rw [← hW2, ← enc_over fs s c (by omega)]; exact HA.out.sets _ _); have HB2 := Lib.hid (show Blk W2 B (stk A fs.length ((s : Int) + 1 + 1)) 141 by rw [← hW2]; exact HB.out.sets_other _ _ _ (Ne.symm hAB)); have HS2 := Lib.hid (show Blk W2 S (stt B) 108 by rw [← hW2]; exact HS.out.sets_other _ _ _ hSA); have h0' := HS2.out.at (o := 14) rfl; have hc0 : W2.cell? ⟨A, s * 10, none⟩ = some (.int .i64 c.idx) := HA2.out.at (enc_at (fs.set s c) s 0 c HSS.out (by omega)); have hc2 := HA2.out.at (enc_at (fs.set s c) s 2 c HSS.out (by omega)); have hf0 := HA2.out.free (s * 10); have hf2 := HA2.out.free (s * 10 + 2); clear hW2 hpp h0 HR HT)))
  have HA3 := Lib.hid ((HA2.out.set (s * 10 + 2) (.pointer q.par)).set (s * 10) (.int .i64 ((s : Int) + 1 + 1 - 2)))
  have HB3 := Lib.hid ((HB2.out.set_other ⟨A, s * 10 + 2, none⟩ (.pointer q.par) (Ne.symm hAB)).set_other ⟨A, s * 10, none⟩ (.int .i64 ((s : Int) + 1 + 1 - 2)) (Ne.symm hAB))
  have UP3 := Lib.hid ((UP2.out.setCell ⟨A, s * 10 + 2, none⟩ (.pointer q.par) (.inl (.inl rfl))).setCell ⟨A, s * 10, none⟩ (.int .i64 ((s : Int) + 1 + 1 - 2)) (.inl (.inl rfl)))
  refine (stk_pop B A fs.length (s + 1) _ (by omega) hk (by exact HB3.out)).mono ?_
  rintro e w3 ⟨rfl, hu, hb⟩
  have HB4 := Lib.hid hb
  have UP4 := Lib.hid (UP3.out.trans (hu.mono (fun _ _ h => Or.inr h)))
  have HA4 := Lib.hid (hu.blk HA3.out hAB)
  clear hb hu HB3 UP3 HA3
  go_wp2
  go_ret
  refine ⟨rfl, UP4.out, ?_, HB4.out⟩
  have e1 := enc_set1 (fs.set s c) s 2 (.pointer q.par) c ⟨c.idx, q.par, c.pc, c.base, c.nret⟩ HSS.out (by omega) rfl
  have e2 := enc_set1 (fs.set s ⟨c.idx, q.par, c.pc, c.base, c.nret⟩) s 0 (.int .i64 s) _ ⟨s, q.par, c.pc, c.base, c.nret⟩ (List.getElem?_set_self (by omega)) (by omega) rfl
  rw [List.set_set] at e1 e2
  have h := HA4.out
  rw [e1, show ((s : Int) + 1 + 1 - 2) = (s : Int) by omega, show s * 10 = s * 10 + 0 from rfl, e2] at h
  exact h

end Go.Proofs.YtnmjidkbaohliaaGreatFmt
