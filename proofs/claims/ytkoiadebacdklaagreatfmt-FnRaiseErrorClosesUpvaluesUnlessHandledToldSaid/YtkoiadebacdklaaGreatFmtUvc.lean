/- Closing open upvalues from an index on: walked. -/
import Derived.Test.YtkoiadebacdklaaGreatFmtUvb
namespace Go.Proofs.YtkoiadebacdklaaGreatFmt
open Go.RowKit
set_option maxRecDepth 100000

theorem NdI.cut0 {w w' : World} {N R u c c' p : Nat} {f : Nat → Nat} {t : Nat → ByteArray} (hp : c' ≤ p) (hpc : p < c) (h : NdI w N R u c c' p f t) (hw : ∀ i, i < u → i ≠ p → (0 < p → i ≠ p - 1) → ∀ l ty, Blk w (N + i) l ty → Blk w' (N + i) l ty)
    (h1 : 0 < p → Blk w' (N + (p - 1)) (nd none R (f (p - 1)) (if shut (p - 1) c c' p then sv (t (p - 1)) else .nilIface) (shut (p - 1) c c' p)) 134)
    (h2 : Blk w' (N + p) (nd (nxi N p c c' p) R (f p) (sv (t p)) true) 134) : NdI w' N R u c c' (p + 1) f t := fun i hi => by
  by_cases e : i = p
  · subst e
    have e1 : shut i c c' (i + 1) = true := by unfold shut; rw [decide_eq_true_eq]; omega
    have e2 : nxi N i c c' (i + 1) = nxi N i c c' i := by
      unfold nxi
      by_cases h : i + 1 < c
      · rw [if_pos ⟨h, by omega⟩, if_pos ⟨h, by omega⟩]
      · rw [if_neg (by omega), if_neg (by omega)]
    rw [e1, e2]
    exact h2
  · have e1 : shut i c c' (p + 1) = shut i c c' p := by
      unfold shut
      rw [decide_eq_decide]
      omega
    rw [e1]
    by_cases e3 : i + 1 = p
    · obtain rfl : i = p - 1 := by omega
      have e2 : nxi N (p - 1) c c' (p + 1) = none := by
        unfold nxi
        rw [if_neg (by omega)]
      rw [e2]
      exact h1 (by omega)
    · have e2 : nxi N i c c' (p + 1) = nxi N i c c' p := by
        unfold nxi
        by_cases h : i + 1 < c ∧ ¬ (c' ≤ i + 1 ∧ i + 1 < p)
        · rw [if_pos h, if_pos (by omega)]
        · rw [if_neg h, if_neg (by omega)]
      rw [e2]
      exact hw i hi e (fun _ => by omega) _ _ (h i hi)

theorem nxi_self (N p c c' : Nat) : nxi N p c c' p = nod N (p + 1) c := by
  unfold nxi nod
  by_cases h : p + 1 < c
  · rw [if_pos ⟨h, by omega⟩, if_pos h]
  · rw [if_neg (by omega), if_neg h]

theorem nod_falls (N p c : Nat) (hp : p < c) : (match Value.pointer (nod N (p + 1) c) with | .pointer (some a) => N + c - a.block | _ => 0) < (match Value.pointer (some ⟨N + p, 0, none⟩) with | .pointer (some a) => N + c - a.block | _ => 0) := by
  by_cases hq : p + 1 < c
  · have e3 : nod N (p + 1) c = some ⟨N + (p + 1), 0, none⟩ := by unfold nod; rw [if_pos hq]
    rw [e3]
    show N + c - (N + (p + 1)) < N + c - (N + p)
    omega
  · have e3 : nod N (p + 1) c = none := by unfold nod; rw [if_neg hq]
    rw [e3]
    show 0 < N + c - (N + p)
    omega

/-- What the cache's head is within the closing walk. -/
def hdi (N c c' p : Nat) : Option Addr := if c' = 0 ∧ 0 < p then none else nod N 0 c

set_option maxHeartbeats 3200000 in
theorem close_upvalues (S R A B F cap top k sp N u c c' : Nat) (cur : Option Addr) (dead err : Bool) (v : Nat → Value) (fr : Nat → List Value) (f : Nat → Nat) (t : Nat → ByteArray) (ix : Int) (w : World)
    (hc : c' ≤ c) (hu : c ≤ u) (_hcap : cap ≤ 131072) (hlo : ∀ i, i < c' → (f i : Int) < ix) (hhi : ∀ i, c' ≤ i → i < c → ix ≤ (f i : Int)) (hf : ∀ i, i < u → f i < cap ∧ v (f i) = sv (t i))
    (hS : S < N ∧ R < N ∧ A < N ∧ B < N ∧ F < N) (h : S2 w S R A B F cap top k sp cur (nod N 0 c) dead err v fr) (hn : Nds w N R u c f t) :
    Calls Tryz.prog 82 #[.pointer (some ⟨S, 0, none⟩), .int .i64 ix] w fun e w' => e = .returned (.tuple #[]) ∧ Upd (fun b => b = S ∨ N ≤ b ∧ b < N + u) w w' ∧ S2 w' S R A B F cap top k sp cur (nod N 0 c') dead err v fr ∧ Nds w' N R u c' f t := by
  have HLO := Lib.hid hlo
  have HHI := Lib.hid hhi
  have HF := Lib.hid hf
  have H := Lib.hid h
  have HN := Lib.hid hn
  have s18 := h.st.at (o := 18) rfl
  clear hlo hhi hf h hn
  by_cases h0 : c = 0
  · subst h0
    obtain rfl : c' = 0 := by omega
    have e : nod N 0 0 = none := by unfold nod; rw [if_neg (by omega)]
    rw [e] at s18
    go_enter Tryz.func82, Tryz.ntmps82
    go_wp2
    go_end0
    exact ⟨rfl, Upd.refl _ _, H.out, HN.out⟩
  · have e : nod N 0 c = some ⟨N, 0, none⟩ := by unfold nod; rw [if_pos (by omega)]; rfl
    rw [e] at s18
    go_enter Tryz.func82, Tryz.ntmps82
    go_wp2
    clear s18
    go_loopw [4, 5] (fun pv uv wr => ∃ p : Nat, p ≤ c ∧ uv = .pointer (nod N p c) ∧ pv = .pointer (if p = 0 then none else some ⟨N + (p - 1), 0, none⟩) ∧ Upd (fun b => b = S ∨ N ≤ b ∧ b < N + u) w wr ∧ S2 wr S R A B F cap top k sp cur (hdi N c c' p) dead err v fr ∧ NdI wr N R u c c' p f t) (fun _ uv _ => match uv with | .pointer (some a) => N + c - a.block | _ => 0)
    case atStart =>
      refine ⟨0, Nat.zero_le _, by rw [e], by simp, Upd.refl _ _, ?_, NdI.start HN.out⟩
      unfold hdi
      rw [if_neg (by omega)]
      exact H.out
    case round =>
      obtain ⟨p, hp, rfl, rfl, hu, hs, hn⟩ := hrel
      have HU := Lib.hid hu
      have HS2 := Lib.hid hs
      have HN2 := Lib.hid hn
      clear hu hs hn H HN
      by_cases hlt : p < c
      · have e1 : nod N p c = some ⟨N + p, 0, none⟩ := by unfold nod; rw [if_pos hlt]
        rw [e1]
        have u2 := (HN2.out p (by omega)).at (o := 2) rfl
        by_cases hpc : p < c'
        · have i1 : decide (ix ≤ (f p : Int)) = false := decide_eq_false (by have := HLO.out p hpc; omega)
          have u0 := (HN2.out p (by omega)).at (o := 0) rfl
          have e2 : nxi N p c c' p = nod N (p + 1) c := by
            unfold nxi nod
            by_cases h : p + 1 < c
            · rw [if_pos ⟨h, by omega⟩, if_pos h]
            · rw [if_neg (by omega), if_neg h]
          rw [e2] at u0
          clear e2
          go_wp2
          go_roundw
          case rel =>
            refine ⟨p + 1, by omega, rfl, ?_, HU.out, ?_, HN2.out.pass hpc⟩
            · rw [if_neg (by omega)]; rfl
            · have := HS2.out
              unfold hdi at this ⊢
              rw [if_neg (by omega)] at this
              rw [if_neg (by omega)]
              exact this
          case measure =>
            by_cases hq : p + 1 < c
            · have e3 : nod N (p + 1) c = some ⟨N + (p + 1), 0, none⟩ := by unfold nod; rw [if_pos hq]
              rw [e3]
              show N + c - (N + (p + 1)) < N + c - (N + p)
              omega
            · have e3 : nod N (p + 1) c = none := by unfold nod; rw [if_neg hq]
              rw [e3]
              show 0 < N + c - (N + p)
              omega
        · have i1 : ix ≤ (f p : Int) := HHI.out p (by omega) hlt
          have hfp := (HF.out p (by omega))
          have hnp := HN2.out p (by omega)
          have es : shut p c c' p = false := by unfold shut; rw [decide_eq_false_iff_not]; omega
          rw [es] at hnp
          have HNP := Lib.hid hnp
          obtain ⟨P, hP⟩ : ∃ P, N + p = P := ⟨_, rfl⟩
          rw [hP] at u2 hnp ⊢
          have d := HS2.out.dis
          have HP := Lib.hid hP
          clear hP es hnp
          by_cases hp0 : p = 0
          · have s18f := HS2.out.st.free 18
            have s18 := HS2.out.st.at (o := 18) rfl
            rw [if_pos hp0]
            have HP0 := Lib.hid hp0
            clear hp0
            go_wp2_with fail
            have hu1 : Upd (fun b => b = S) wr (wr.setCell ⟨S, 18, none⟩ (.pointer none)) := Upd.setCell (S := fun b => b = S) (Upd.refl _ _) ⟨S, 18, none⟩ _ (Or.inl rfl)
            have HU1 := Lib.hid hu1
            clear hu1
            have hPn := HP.out
            refine (uv_close P R A cap top (nxi N p c c' p) (f p) (t p) v _ hfp.1 hfp.2 (by rw [← hPn]; exact HU1.out.blk HNP.out (by omega)) (HU1.out.blk HS2.out.rg (by omega)) (HU1.out.blk HS2.out.ar (by omega))).mono ?_
            rintro e w3 ⟨rfl, hu3, hb3⟩
            have HU3 := Lib.hid hu3
            have HB3 := Lib.hid hb3
            have b0 := hb3.at (o := 0) rfl
            clear hu3 hb3 u2 s18 s18f
            go_wp2
            go_roundw
            case rel =>
              have hp0 := HP0.out
              refine ⟨p + 1, by omega, by rw [nxi_self], by rw [if_neg (by omega), Nat.add_sub_cancel, HP.out], HU.out.trans ((HU1.out.mono (fun c _ h => .inl h)).trans (HU3.out.mono (fun c _ h => .inr (by have h : c = P := h; omega)))), ?_, ?_⟩
              · have e3 : hdi N c c' (p + 1) = none := by unfold hdi; rw [if_pos ⟨by omega, by omega⟩]
                rw [e3]
                exact ⟨d, HU3.out.blk (HS2.out.st.set 18 (.pointer none)) (by omega), HU3.out.blk (HU1.out.blk HS2.out.rg (by omega)) (by omega), HU3.out.blk (HU1.out.blk HS2.out.ar (by omega)) (by omega), HU3.out.blk (HU1.out.blk HS2.out.fs (by omega)) (by omega), HU3.out.blk (HU1.out.blk HS2.out.sk (by omega)) (by omega)⟩
              · refine NdI.cut0 (by omega) hlt HN2.out (fun i _ hip _ l ty hb => HU3.out.blk (HU1.out.blk hb (by omega)) (by omega)) (fun h => by omega) ?_
                rw [hPn]
                exact HB3.out
            case measure =>
              rw [nxi_self, ← hPn]
              exact nod_falls N p c hlt
          · rw [if_neg hp0]
            obtain ⟨V, hV⟩ : ∃ V, N + (p - 1) = V := ⟨_, rfl⟩
            rw [hV]
            have hv := HN2.out (p - 1) (by omega)
            rw [hV] at hv
            have v0 := hv.at (o := 0) rfl
            have vf := hv.free 0
            have HV := Lib.hid hv
            have HVN := Lib.hid hV
            have HP0 := Lib.hid hp0
            clear hp0 hv hV
            go_wp2_with fail
            have hu1 : Upd (fun b => b = V) wr (wr.setCell ⟨V, 0, none⟩ (.pointer none)) := Upd.setCell (S := fun b => b = V) (Upd.refl _ _) ⟨V, 0, none⟩ _ (Or.inl rfl)
            have HU1 := Lib.hid hu1
            clear hu1
            have hPn := HP.out
            have hVn := HVN.out
            have hp0 := HP0.out
            refine (uv_close P R A cap top (nxi N p c c' p) (f p) (t p) v _ hfp.1 hfp.2 (by rw [← hPn]; exact HU1.out.blk HNP.out (by omega)) (HU1.out.blk HS2.out.rg (by omega)) (HU1.out.blk HS2.out.ar (by omega))).mono ?_
            rintro e w3 ⟨rfl, hu3, hb3⟩
            have HU3 := Lib.hid hu3
            have HB3 := Lib.hid hb3
            have b0 := hb3.at (o := 0) rfl
            have HPN := Lib.hid hPn
            have HP1 := Lib.hid hp0
            have HVN1 := Lib.hid hVn
            clear hu3 hb3 u2 v0 vf hPn hp0 hVn
            go_wp2
            go_roundw
            case rel =>
              have hPn := HPN.out
              have hp0 := HP1.out
              have hVn := HVN1.out
              refine ⟨p + 1, by omega, by rw [nxi_self], by rw [if_neg (by omega), Nat.add_sub_cancel, HP.out], HU.out.trans ((HU1.out.mono (fun c _ h => .inr (by have h : c = V := h; omega))).trans (HU3.out.mono (fun c _ h => .inr (by have h : c = P := h; omega)))), ?_, ?_⟩
              · have e3 : hdi N c c' (p + 1) = hdi N c c' p := by
                  unfold hdi
                  by_cases h : c' = 0
                  · rw [if_pos ⟨h, by omega⟩, if_pos ⟨h, by omega⟩]
                  · rw [if_neg (by omega), if_neg (by omega)]
                rw [e3]
                exact ⟨d, HU3.out.blk (HU1.out.blk HS2.out.st (by omega)) (by omega), HU3.out.blk (HU1.out.blk HS2.out.rg (by omega)) (by omega), HU3.out.blk (HU1.out.blk HS2.out.ar (by omega)) (by omega), HU3.out.blk (HU1.out.blk HS2.out.fs (by omega)) (by omega), HU3.out.blk (HU1.out.blk HS2.out.sk (by omega)) (by omega)⟩
              · refine NdI.cut0 (by omega) hlt HN2.out (fun i _ hip hip2 l ty hb => HU3.out.blk (HU1.out.blk hb (by have := hip2 (by omega); omega)) (by omega)) (fun _ => ?_) ?_
                · rw [hVn]
                  exact HU3.out.blk (HV.out.set 0 (.pointer none)) (by omega)
                · rw [hPn]
                  exact HB3.out
            case measure =>
              rw [nxi_self, ← HPN.out]
              exact nod_falls N p c hlt
      · obtain rfl : p = c := by omega
        have e1 : nod N p p = none := by unfold nod; rw [if_neg (by omega)]
        rw [e1]
        go_wp2
        go_end0
        refine ⟨rfl, HU.out, ?_, HN2.out.stop hc⟩
        have := HS2.out
        have e3 : hdi N p c' p = nod N 0 c' := by
          unfold hdi nod
          by_cases h : c' = 0
          · rw [if_pos ⟨h, by omega⟩, if_neg (by omega)]
          · rw [if_neg (by omega), if_pos (by omega), if_pos (by omega)]
        rw [e3] at this
        exact this
end Go.Proofs.YtkoiadebacdklaaGreatFmt
