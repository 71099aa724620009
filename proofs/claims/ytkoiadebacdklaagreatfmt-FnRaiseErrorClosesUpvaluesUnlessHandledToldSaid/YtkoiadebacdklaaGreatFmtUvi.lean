/- FnCloseAllUpvaluesKeepsBelowLowestLuaFrame, walked. -/
import Derived.Test.YtkoiadebacdklaaGreatFmtUvh
namespace Go.Proofs.YtkoiadebacdklaaGreatFmt
open Go.RowKit
set_option maxRecDepth 100000

theorem asc_of {u : Nat} {f : Nat → Nat} (h : ∀ m, m < u → 0 < m → f (m - 1) < f m) : ∀ i j, i < j → j < u → f i < f j := by
  intro i j hij
  induction j with
  | zero => omega
  | succ j ih =>
    intro hj
    have h1 := h (j + 1) hj (by omega)
    rw [Nat.add_sub_cancel] at h1
    by_cases e : i = j
    · subst e; exact h1
    · have := ih (by omega) (by omega); omega

set_option maxHeartbeats 3200000 in
theorem keeps_in (aR aI aB aG : Option Addr) (n cR u cI k cB q cG : Nat) (s : Nat → ByteArray) (x lb : Nat → Int) (g : Nat → Bool) (w : World) (hn : n ≤ 4096) (hu : u ≤ 4096) (hk : k ≤ 4096) (hq : q ≤ 4096)
    (hR : Cells w aR n fun j => .string (s j)) (hI : Cells w aI u fun j => .int .i64 (x j)) (hB : Cells w aB k fun j => .int .i64 (lb j)) (hG : Cells w aG q fun j => .bool (g j)) :
    Calls Tryz.prog 6 #[.slice aR n cR, .slice aI u cI, .slice aB k cB, .slice aG q cG] w (Good w) := by
  have HR := Lib.hid hR
  have HI := Lib.hid hI
  have HB := Lib.hid hB
  have HG := Lib.hid hG
  clear hR hI hB hG
  go_enter Tryz.func6, Tryz.ntmps6
  go_wp2_with fail
  refine (guard_keeps aR aI aB aG n cR u cI k cB q cG s _ (by omega) (by omega) (by omega) (by omega) HR.out).mono ?_
  rintro e w' ⟨b, rfl, rfl, hs⟩
  cases b with
  | false =>
    go_wp2
    go_ret
    exact ⟨rfl, Below.refl _ _⟩
  | true =>
    have HS := Lib.hid (hs rfl)
    clear hs
    go_wp2_with fail
    refine (str_bytes aR n cR s _ hn HR.out HS.out).mono ?_
    rintro e w' ⟨z, hz, rfl, rfl⟩
    by_cases hbig : z + 8 * u + 8 * k + q ≤ 1048576
    case neg =>
      go_wp2
      go_ret
      exact ⟨rfl, Below.refl _ _⟩
    by_cases hkq : k = q
    case neg =>
      go_wp2
      go_ret
      exact ⟨rfl, Below.refl _ _⟩
    subst hkq
    go_wp2_with fail
    refine (premise aI aB n u cI k cB x lb _ hn hu hk HI.out HB.out).mono ?_
    rintro e w1 ⟨b, rfl, hu1, hp⟩
    have U1 := Lib.hid hu1
    clear hu1 hz hbig
    cases b with
    | false =>
      go_wp2
      go_ret
      exact ⟨rfl, U1.out.below (Nat.le_refl _) (fun _ h => h.elim)⟩
    | true =>
      have hp := hp rfl
      have hx : ∀ m, m < u → ((x m).toNat : Int) = x m := fun m hm => by have := hp m hm; omega
      have hfn : ∀ m, m < u → (x m).toNat < n := fun m hm => by have := hp m hm; omega
      have hasc : ∀ i j, i < j → j < u → (x i).toNat < (x j).toNat := asc_of (f := fun m => (x m).toNat) (fun m hm h0 => by have h1 := hp m hm; have h2 := hp (m - 1) (by omega); have h3 := h1.2.2 h0; omega)
      obtain ⟨f, hf⟩ : ∃ f : Nat → Nat, (fun m => (x m).toNat) = f := ⟨_, rfl⟩
      have hf' : ∀ m, (x m).toNat = f m := fun m => congrFun hf m
      simp only [hf'] at hx hfn hasc
      have hI2 : Cells w aI u fun j => .int .i64 (f j : Int) := fun j hj => by
        obtain ⟨a, h1, h2⟩ := HI.out j hj
        exact ⟨a, h1, by show _ = some (Value.int .i64 (f j : Int)); rw [hx j hj]; exact h2⟩
      have HI2 := Lib.hid hI2
      have HFN := Lib.hid hfn
      have ASC := Lib.hid hasc
      clear hx hfn hasc hf hf' hp hI2 HI
      go_wp2_with fail
      refine (cloneStr aR n cR s _ (by omega) (HR.out.upd U1.out)).mono ?_
      rintro e w2 ⟨a1, c1, rfl, hu2, h1⟩
      have U2 := Lib.hid (U1.out.trans hu2)
      have H1 := Lib.hid (Held.of_new h1)
      clear hu2 h1 U1
      go_wp2_with fail
      refine (cloneInt aI u cI (fun m => (f m : Int)) _ (by omega) (HI2.out.upd U2.out)).mono ?_
      rintro e w3 ⟨a2, c2, rfl, hu3, h2⟩
      have U3 := Lib.hid (U2.out.trans hu3)
      have H1 := Lib.hid ((H1.out.upd hu3 (fun c h => h.elim)).mono hu3.size)
      have H2 := Lib.hid (Held.of_new h2)
      clear hu3 h2 U2
      go_wp2_with fail
      refine (cloneInt aB k cB lb _ (by omega) (HB.out.upd U3.out)).mono ?_
      rintro e w4 ⟨a3, c3, rfl, hu4, h3⟩
      have U4 := Lib.hid (U3.out.trans hu4)
      have H1 := Lib.hid ((H1.out.upd hu4 (fun c h => h.elim)).mono hu4.size)
      have H2 := Lib.hid ((H2.out.upd hu4 (fun c h => h.elim)).mono hu4.size)
      have H3 := Lib.hid (Held.of_new h3)
      clear hu4 h3 U3
      go_wp2_with fail
      refine (cloneBool aG k cG g _ (by omega) (HG.out.upd U4.out)).mono ?_
      rintro e w5 ⟨a4, c4, rfl, hu5, h4⟩
      have U5 := Lib.hid (U4.out.trans hu5)
      have H1 := Lib.hid ((H1.out.upd hu5 (fun c h => h.elim)).mono hu5.size)
      have H2 := Lib.hid ((H2.out.upd hu5 (fun c h => h.elim)).mono hu5.size)
      have H3 := Lib.hid ((H3.out.upd hu5 (fun c h => h.elim)).mono hu5.size)
      have H4 := Lib.hid (Held.of_new h4)
      clear hu5 h4 U4
      go_wp2_with fail
      refine (build_uv a1 a2 a3 a4 n c1 u c2 k c3 c4 s f lb g _ hn hu hk H1.out H2.out H3.out H4.out).mono ?_
      rintro e w6 ⟨S, R, A, B, F, M, fb, fr, rfl, hbu⟩
      have BU := Lib.hid hbu
      clear hbu
      go_wp2_with fail
      refine (zz_close_all S R A B F (n + 1) n k (M + 1) u u false false (vals s n) fr f (fun i => s (f i)) fb g lb _ (close_all S R A B F (n + 1) n k (M + 1) u u false false (vals s n) fr f (fun i => s (f i)) fb g lb _ (Nat.le_refl _) (by omega) hk ASC.out (fun i hi => ⟨by have := HFN.out i hi; omega, by unfold vals; rw [if_pos (HFN.out i hi)]⟩) BU.out.ord BU.out.fbs BU.out.st BU.out.nds BU.out.frs)).mono ?_
      rintro e w7 ⟨rfl, c, hc, hlo, hhi, hu7, hs7, hn7⟩
      have old := BU.out.old
      have hS : ∀ b, (b = S ∨ M + 1 ≤ b ∧ b < M + 1 + u) → w5.heap.size ≤ b := fun b hb => by omega
      have H1 := Lib.hid ((H1.out.upd BU.out.upd (fun c h => h.elim)).upd hu7 hS)
      have H2 := Lib.hid ((H2.out.upd BU.out.upd (fun c h => h.elim)).upd hu7 hS)
      have H3 := Lib.hid ((H3.out.upd BU.out.upd (fun c h => h.elim)).upd hu7 hS)
      have H4 := Lib.hid ((H4.out.upd BU.out.upd (fun c h => h.elim)).upd hu7 hS)
      have hM7 := hu7.blk BU.out.nodes (by have := BU.out.sm; omega)
      have U7 := Lib.hid ((U5.out.trans BU.out.upd).trans_new hu7 (fun b hb => Nat.le_trans U5.out.size (hS b hb)))
      have LO := Lib.hid hlo
      have HI7 := Lib.hid hhi
      have S7 := Lib.hid hs7
      have N7 := Lib.hid hn7
      have M7 := Lib.hid hM7
      clear hlo hhi hu7 hs7 hn7 hM7 hS old BU U5
      go_wp2_with fail
      refine (lowest a3 a4 k c3 c4 lb g _ hk H3.out.cells H4.out.cells).mono ?_
      rintro e w' ⟨b0, x0, rfl, rfl, hb0⟩
      have B0 := Lib.hid hb0
      clear hb0
      go_wp2_with fail
      refine (check S R A B F M (n + 1) n k k n u c c2 c1 a2 a1 _ false false b0 x0 (vals s n) fr s f _ hn hu hc S7.out N7.out M7.out H2.out.cells H1.out.cells HFN.out (fun i hi => ⟨fun h => (B0.out _).mpr (HI7.out i h hi), fun h => ?_⟩)).mono ?_
      · obtain ⟨j, h1, h2, h3⟩ := (B0.out _).mp h
        by_cases hci : c ≤ i
        · exact hci
        · have := LO.out i (by omega) j h1 h2; omega
      rintro e w8 ⟨rfl, hu8⟩
      have U8 := Lib.hid (U7.out.trans_new hu8 (fun _ h => h.elim))
      clear hu8
      go_wp2
      go_ret
      exact ⟨rfl, U8.out.below (Nat.le_refl _) (fun _ h => h.elim)⟩

set_option maxHeartbeats 1600000 in
theorem keeps_long (aR aI aB aG : Option Addr) (n cR u cI k cB q cG : Nat) (s : Nat → ByteArray) (w : World) (h0 : n ≤ 9223372036854775807) (h1 : u ≤ 9223372036854775807) (h2 : k ≤ 9223372036854775807) (h3 : q ≤ 9223372036854775807)
    (hl : ¬ (n ≤ 4096 ∧ u ≤ 4096 ∧ k ≤ 4096 ∧ q ≤ 4096)) (hR : Cells w aR n fun j => .string (s j)) :
    Calls Tryz.prog 6 #[.slice aR n cR, .slice aI u cI, .slice aB k cB, .slice aG q cG] w (Good w) := by
  have HR := Lib.hid hR
  clear hR
  go_enter Tryz.func6, Tryz.ntmps6
  go_wp2_with fail
  refine (guard_keeps aR aI aB aG n cR u cI k cB q cG s _ h0 h1 h2 h3 HR.out).mono ?_
  rintro e w' ⟨b, rfl, rfl, hs⟩
  clear hs
  cases b with
  | false =>
    go_wp2
    go_ret
    exact ⟨rfl, Below.refl _ _⟩
  | true =>
    by_cases l0 : n ≤ 4096
    case neg =>
      go_wp2
      all_goals
        go_ret
        exact ⟨rfl, Below.refl _ _⟩
    by_cases l1 : u ≤ 4096
    case neg =>
      go_wp2
      all_goals
        go_ret
        exact ⟨rfl, Below.refl _ _⟩
    by_cases l2 : k ≤ 4096
    case neg =>
      go_wp2
      all_goals
        go_ret
        exact ⟨rfl, Below.refl _ _⟩
    have l3 : ¬ q ≤ 4096 := fun h => hl ⟨l0, l1, l2, h⟩
    clear hl
    go_wp2
    all_goals
      go_ret
      exact ⟨rfl, Below.refl _ _⟩
end Go.Proofs.YtkoiadebacdklaaGreatFmt
