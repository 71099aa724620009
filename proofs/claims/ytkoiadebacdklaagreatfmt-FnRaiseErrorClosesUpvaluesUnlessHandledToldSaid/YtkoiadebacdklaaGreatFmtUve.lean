/- Closing by all frames: walked. -/
import Derived.Test.YtkoiadebacdklaaGreatFmtUvd
import Derived.Test.YtkoiadebacdklaaGreatFmtCnt
namespace Go.Proofs.YtkoiadebacdklaaGreatFmt
open Go.RowKit
set_option maxRecDepth 100000

/-- The frame below the i-th. -/
def below (F i : Nat) : Option Addr := if i = 0 then none else some ⟨F, (i - 1) * 10, none⟩
/-- A function's cells. -/
def fnl (g : Bool) (P : Option Addr) : List Value := [.bool g, .pointer none, .pointer P, .nilFunc, .slice none 0 0]

/-- The frames of these laws. -/
structure Frs (w : World) (F k : Nat) (fb : Nat → Nat) (g : Nat → Bool) (lb : Nat → Int) (fr : Nat → List Value) : Prop where
  row : ∀ i, i < k → ∃ pc b, fr i = frm i (fb i) (below F i) pc b (lb i)
  len : ∀ i, i < k → (fr i).length = 10
  fn : ∀ i, i < k → ∃ P, Blk w (fb i) (fnl (g i) P) 59

theorem Frs.upd {w w' : World} {F k : Nat} {fb : Nat → Nat} {g : Nat → Bool} {lb : Nat → Int} {fr : Nat → List Value} (h : Frs w F k fb g lb fr) {T : Nat → Prop} (hu : Upd T w w') (hT : ∀ i, i < k → ¬ T (fb i)) : Frs w' F k fb g lb fr :=
  ⟨h.row, h.len, fun i hi => by obtain ⟨P, hP⟩ := h.fn i hi; exact ⟨P, hu.blk hP (hT i hi)⟩⟩

theorem S2.frame {w : World} {S R A B F cap top k sp : Nat} {cur uv : Option Addr} {dead err : Bool} {v : Nat → Value} {fr : Nat → List Value} (h : S2 w S R A B F cap top k sp cur uv dead err v fr) (hl : ∀ i, i < k → (fr i).length = 10) {i c : Nat} {x : Value} (hi : i < k) (hc : c < 10) (hx : (fr i)[c]? = some x) :
    w.cell? ⟨F, i * 10 + c, none⟩ = some x := h.fs.at (by rw [rws_at hl hi hc]; exact hx)

/-- What closing by all frames leaves: the first c stay open. -/
def Closed (w : World) (S R A B F cap top k N u c0 : Nat) (cur : Option Addr) (dead err : Bool) (v : Nat → Value) (fr : Nat → List Value) (f : Nat → Nat) (t : Nat → ByteArray) (g : Nat → Bool) (lb : Nat → Int) (e : Ending) (w' : World) : Prop :=
  e = .returned (.tuple #[]) ∧ ∃ c, c ≤ c0 ∧ (∀ i, i < c → ∀ j, j < k → g j = false → (f i : Int) < lb j) ∧ (∀ i, c ≤ i → i < c0 → ∃ j, j < k ∧ g j = false ∧ lb j ≤ (f i : Int)) ∧
    Upd (fun b => b = S ∨ N ≤ b ∧ b < N + u) w w' ∧ S2 w' S R A B F cap top k k cur (nod N 0 c) dead err v fr ∧ Nds w' N R u c f t

set_option maxHeartbeats 1600000 in
theorem close_all (S R A B F cap top k N u c0 : Nat) (dead err : Bool) (v : Nat → Value) (fr : Nat → List Value) (f : Nat → Nat) (t : Nat → ByteArray) (fb : Nat → Nat) (g : Nat → Bool) (lb : Nat → Int) (w : World)
    (hc0 : c0 ≤ u) (hcap : cap ≤ 131072) (_hk : k ≤ 4096) (asc : ∀ i j, i < j → j < u → f i < f j) (hf : ∀ i, i < u → f i < cap ∧ v (f i) = sv (t i)) (hS : S < N ∧ R < N ∧ A < N ∧ B < N ∧ F < N) (hfb : ∀ i, i < k → N + u ≤ fb i)
    (h : S2 w S R A B F cap top k k (below F k) (nod N 0 c0) dead err v fr) (hn : Nds w N R u c0 f t) (hr : Frs w F k fb g lb fr) :
    Calls Tryz.prog 63 #[.pointer (some ⟨S, 0, none⟩)] w (Closed w S R A B F cap top k N u c0 (below F k) dead err v fr f t g lb) := by
  have s16 := h.st.at (o := 16) rfl
  have H := Lib.hid h
  have HN := Lib.hid hn
  have HR := Lib.hid hr
  have HF := Lib.hid hf
  have HFB := Lib.hid hfb
  have ASC := Lib.hid asc
  clear h hn hr hf hfb asc
  go_enter Tryz.func63, Tryz.ntmps63
  go_wp2
  clear s16
  go_loopw [2] (fun cf wr => ∃ q c : Nat, q ≤ k ∧ c ≤ c0 ∧ cf = .pointer (below F q) ∧ (∀ i, i < c → ∀ j, q ≤ j → j < k → g j = false → (f i : Int) < lb j) ∧ (∀ i, c ≤ i → i < c0 → ∃ j, q ≤ j ∧ j < k ∧ g j = false ∧ lb j ≤ (f i : Int)) ∧
    Upd (fun b => b = S ∨ N ≤ b ∧ b < N + u) w wr ∧ S2 wr S R A B F cap top k k (below F k) (nod N 0 c) dead err v fr ∧ Nds wr N R u c f t) (fun cf _ => match cf with | .pointer (some a) => a.off + 1 | _ => 0)
  case atStart => exact ⟨k, c0, Nat.le_refl _, Nat.le_refl _, rfl, fun i hi j h1 h2 => by omega, fun i h1 h2 => by omega, Upd.refl _ _, H.out, HN.out⟩
  case round =>
    obtain ⟨q, c, hq, hc, rfl, hlo, hhi, hu, hs, hn⟩ := hrel
    have HLO := Lib.hid hlo
    have HHI := Lib.hid hhi
    have HU := Lib.hid hu
    have HS2 := Lib.hid hs
    have HN2 := Lib.hid hn
    have HR2 := Lib.hid (HR.out.upd hu (fun i hi => by have := HFB.out i hi; omega))
    clear hlo hhi hu hs hn H HN
    by_cases hq0 : q = 0
    · subst hq0
      have e : below F 0 = none := by unfold below; rw [if_pos rfl]
      rw [e]
      go_wp2
      go_end0
      exact ⟨rfl, c, hc, fun i hi j hj hg => HLO.out i hi j (Nat.zero_le _) hj hg, fun i h1 h2 => by obtain ⟨j, _, hj, hg, hl⟩ := HHI.out i h1 h2; exact ⟨j, hj, hg, hl⟩, HU.out, HS2.out, HN2.out⟩
    · obtain ⟨p, rfl⟩ : ∃ p, q = p + 1 := ⟨q - 1, by omega⟩
      have e : below F (p + 1) = some ⟨F, p * 10, none⟩ := by unfold below; rw [if_neg (by omega), Nat.add_sub_cancel]
      rw [e]
      obtain ⟨pc, b, hrow⟩ := HR2.out.row p (by omega)
      obtain ⟨P, hfn⟩ := HR2.out.fn p (by omega)
      have c1 := HS2.out.frame HR2.out.len (i := p) (c := 1) (by omega) (by omega) (by rw [hrow]; rfl)
      have c2 := HS2.out.frame HR2.out.len (i := p) (c := 2) (by omega) (by omega) (by rw [hrow]; rfl)
      have c5 := HS2.out.frame HR2.out.len (i := p) (c := 5) (by omega) (by omega) (by rw [hrow]; rfl)
      have g0 := hfn.at (o := 0) rfl
      clear hrow hfn hq0
      have hmeas : (match Value.pointer (below F p) with | .pointer (some a) => a.off + 1 | _ => 0) < (match Value.pointer (some ⟨F, p * 10, none⟩) with | .pointer (some a) => a.off + 1 | _ => 0) := by
        by_cases hp : p = 0
        · have e : below F p = none := by unfold below; rw [if_pos hp]
          rw [e]
          show 0 < p * 10 + 1
          omega
        · have e : below F p = some ⟨F, (p - 1) * 10, none⟩ := by unfold below; rw [if_neg hp]
          rw [e]
          show (p - 1) * 10 + 1 < p * 10 + 1
          omega
      have HM := Lib.hid hmeas
      clear hmeas
      cases hg : g p with
      | true =>
        rw [hg] at g0
        have HG := Lib.hid hg
        clear hg
        go_wp2
        go_roundw
        case rel =>
          refine ⟨p, c, by omega, hc, rfl, fun i hi j h1 h2 h3 => ?_, fun i h1 h2 => ?_, HU.out, HS2.out, HN2.out⟩
          · by_cases e : j = p
            · subst e; rw [HG.out] at h3; cases h3
            · exact HLO.out i hi j (by omega) h2 h3
          · obtain ⟨j, hj1, hj2, hj3, hj4⟩ := HHI.out i h1 h2
            exact ⟨j, by omega, hj2, hj3, hj4⟩
        case measure => exact HM.out
      | false =>
        rw [hg] at g0
        have HG := Lib.hid hg
        clear hg
        obtain ⟨c', hc1, hc2, hc3⟩ := Cnt.cut_below ASC.out (lb p) c (by omega)
        have HC2 := Lib.hid hc2
        have HC3 := Lib.hid hc3
        clear hc2 hc3
        go_wp2_with fail
        refine (close_upvalues S R A B F cap top k k N u c c' (below F k) dead err v fr f t (lb p) _ hc1 (by omega) hcap HC2.out HC3.out HF.out hS HS2.out HN2.out).mono ?_
        rintro e w2 ⟨rfl, hu2, hs2, hn2⟩
        have HU2 := Lib.hid hu2
        have HS3 := Lib.hid hs2
        have HN3 := Lib.hid hn2
        clear hu2 hs2 hn2 c1 c2 c5 g0
        obtain ⟨pc, b, hrow⟩ := HR2.out.row p (by omega)
        have c2 := HS3.out.frame HR2.out.len (i := p) (c := 2) (by omega) (by omega) (by rw [hrow]; rfl)
        clear hrow
        go_wp2
        go_roundw
        case rel =>
          refine ⟨p, c', by omega, by omega, rfl, fun i hi j h1 h2 h3 => ?_, fun i h1 h2 => ?_, HU.out.trans (HU2.out), HS3.out, HN3.out⟩
          · by_cases e : j = p
            · subst e; exact HC2.out i hi
            · exact HLO.out i (by omega) j (by omega) h2 h3
          · by_cases e : i < c
            · exact ⟨p, by omega, by omega, HG.out, HC3.out i h1 e⟩
            · obtain ⟨j, hj1, hj2, hj3, hj4⟩ := HHI.out i (by omega) h2
              exact ⟨j, by omega, hj2, hj3, hj4⟩
        case measure => exact HM.out

set_option maxHeartbeats 400000 in
theorem zz_close_all (S R A B F cap top k N u c0 : Nat) (dead err : Bool) (v : Nat → Value) (fr : Nat → List Value) (f : Nat → Nat) (t : Nat → ByteArray) (_fb : Nat → Nat) (g : Nat → Bool) (lb : Nat → Int) (w : World)
    (h : Calls Tryz.prog 63 #[.pointer (some ⟨S, 0, none⟩)] w (Closed w S R A B F cap top k N u c0 (below F k) dead err v fr f t g lb)) :
    Calls Tryz.prog 33 #[.pointer (some ⟨S, 0, none⟩)] w (Closed w S R A B F cap top k N u c0 (below F k) dead err v fr f t g lb) := by
  go_enter Tryz.func33, Tryz.ntmps33
  go_wp2_with fail
  refine h.mono ?_
  rintro e w' ⟨rfl, hp⟩
  have HP := Lib.hid hp
  clear hp
  go_wp2
  go_end0
  exact ⟨rfl, HP.out⟩
end Go.Proofs.YtkoiadebacdklaaGreatFmt
