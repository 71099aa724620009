/- FnCloseAllUpvaluesIsIdempotent, walked. -/
import Derived.Test.YtkoiadebacdklaaGreatFmtUvi
import Derived.Test.YtkoiadebacdklaaGreatFmtUvj
namespace Go.Proofs.YtkoiadebacdklaaGreatFmt
open Go.RowKit
set_option maxRecDepth 100000

/-- A table filled up to j. -/
def filled (u j : Nat) (f : Nat → Value) (z : Value) : List Value := tab u fun m => if m < j then f m else z
theorem filled_zero (u : Nat) (f : Nat → Value) (z : Value) : (tab u fun _ => z) = filled u 0 f z := tab_congr fun m _ => (if_neg (by omega)).symm
theorem filled_set (u j : Nat) (f : Nat → Value) (z : Value) : (filled u j f z).set j (f j) = filled u (j + 1) f z := by
  unfold filled
  rw [tab_set]
  refine tab_congr fun m _ => ?_
  by_cases e : m = j
  · subst e; rw [if_pos rfl, if_pos (by omega)]
  · rw [if_neg e]
    by_cases e2 : m < j
    · rw [if_pos e2, if_pos (by omega)]
    · rw [if_neg e2, if_neg (by omega)]
theorem filled_full (u : Nat) (f : Nat → Value) (z : Value) : filled u u f z = tab u f := tab_congr fun _ hm => if_pos hm
theorem filled_at {u j : Nat} {f : Nat → Value} {z : Value} (h : j < u) : (filled u j f z)[j]? = some z := by unfold filled; rw [tab_in h, if_neg (by omega)]

/-- What a node shows as a text. -/
def txt (c : Nat) (t : Nat → ByteArray) (m : Nat) : ByteArray := if c ≤ m then t m else ByteArray.empty

theorem uv_val (N R u c i : Nat) (f : Nat → Nat) (t : Nat → ByteArray) (w : World) (hi : i < u) (h : Nds w N R u c f t) :
    Calls Tryz.prog 37 #[.pointer (some ⟨N + i, 0, none⟩)] w fun e w' => e = .returned (.tuple #[.string (txt c t i), .bool (decide (c ≤ i))]) ∧ w = w' := by
  have h := h i hi
  unfold txt
  by_cases hc : c ≤ i
  · rw [if_pos hc] at h ⊢
    rw [decide_eq_true hc] at h ⊢
    exact uv_value_s _ _ _ _ _ _ _ h
  · rw [if_neg hc] at h ⊢
    rw [decide_eq_false hc] at h ⊢
    exact uv_value_n _ _ _ _ _ _ h

theorem Upd.nds {w w' : World} (hu : Upd (fun _ => False) w w') {N R u c : Nat} {f : Nat → Nat} {t : Nat → ByteArray} (h : Nds w N R u c f t) : Nds w' N R u c f t := fun i hi => hu.blk (h i hi) (fun h => h)
theorem S2.false {w w' : World} {S R A B F cap top k sp : Nat} {cur uv : Option Addr} {dead err : Bool} {v : Nat → Value} {fr : Nat → List Value} (h : S2 w S R A B F cap top k sp cur uv dead err v fr) (hu : Upd (fun _ => False) w w') : S2 w' S R A B F cap top k sp cur uv dead err v fr := h.new hu

set_option maxHeartbeats 6400000 in
theorem idem_in (aR aI aB aG : Option Addr) (n cR u cI k cB q cG : Nat) (s : Nat → ByteArray) (x lb : Nat → Int) (g : Nat → Bool) (w : World) (hn : n ≤ 4096) (hu : u ≤ 4096) (hk : k ≤ 4096) (hq : q ≤ 4096)
    (hR : Cells w aR n fun j => .string (s j)) (hI : Cells w aI u fun j => .int .i64 (x j)) (hB : Cells w aB k fun j => .int .i64 (lb j)) (hG : Cells w aG q fun j => .bool (g j)) :
    Calls Tryz.prog 7 #[.slice aR n cR, .slice aI u cI, .slice aB k cB, .slice aG q cG] w (Good w) := by
  have HR := Lib.hid hR
  have HI := Lib.hid hI
  have HB := Lib.hid hB
  have HG := Lib.hid hG
  clear hR hI hB hG
  go_enter Tryz.func7, Tryz.ntmps7
  go_wp2_with fail
  refine (guard_idem aR aI aB aG n cR u cI k cB q cG s _ (by omega) (by omega) (by omega) (by omega) HR.out).mono ?_
  rintro e w' ⟨b, rfl, rfl, hs⟩
  cases b with
  | false =>
    go_wp2
    go_ret
    exact ⟨rfl, Below.refl _ _⟩
  | true =>
    have HS := Lib.hid (hs rfl)
    clear hs
    go_wp2_with fail
    refine (str_bytes aR n cR s _ hn HR.out HS.out).mono ?_
    rintro e w' ⟨z, hz, rfl, rfl⟩
    by_cases hbig : z + 8 * u + 8 * k + q ≤ 1048576
    case neg =>
      go_wp2
      go_ret
      exact ⟨rfl, Below.refl _ _⟩
    by_cases hkq : k = q
    case neg =>
      go_wp2
      go_ret
      exact ⟨rfl, Below.refl _ _⟩
    subst hkq
    go_wp2_with fail
    refine (premise aI aB n u cI k cB x lb _ hn hu hk HI.out HB.out).mono ?_
    rintro e w1 ⟨b, rfl, hu1, hp⟩
    have U1 := Lib.hid hu1
    clear hu1 hz hbig
    cases b with
    | false =>
      go_wp2
      go_ret
      exact ⟨rfl, U1.out.below (Nat.le_refl _) (fun _ h => h.elim)⟩
    | true =>
      have hp := hp rfl
      have hx : ∀ m, m < u → ((x m).toNat : Int) = x m := fun m hm => by have := hp m hm; omega
      have hfn : ∀ m, m < u → (x m).toNat < n := fun m hm => by have := hp m hm; omega
      have hasc : ∀ i j, i < j → j < u → (x i).toNat < (x j).toNat := asc_of (f := fun m => (x m).toNat) (fun m hm h0 => by have h1 := hp m hm; have h2 := hp (m - 1) (by omega); have h3 := h1.2.2 h0; omega)
      obtain ⟨f, hf⟩ : ∃ f : Nat → Nat, (fun m => (x m).toNat) = f := ⟨_, rfl⟩
      have hf' : ∀ m, (x m).toNat = f m := fun m => congrFun hf m
      simp only [hf'] at hx hfn hasc
      have hI2 : Cells w aI u fun j => .int .i64 (f j : Int) := fun j hj => by
        obtain ⟨a, h1, h2⟩ := HI.out j hj
        exact ⟨a, h1, by show _ = some (Value.int .i64 (f j : Int)); rw [hx j hj]; exact h2⟩
      have HI2 := Lib.hid hI2
      have HFN := Lib.hid hfn
      have ASC := Lib.hid hasc
      clear hx hfn hasc hf hf' hp hI2 HI
      go_wp2_with fail
      refine (cloneStr aR n cR s _ (by omega) (HR.out.upd U1.out)).mono ?_
      rintro e w2 ⟨a1, c1, rfl, hu2, h1⟩
      have U2 := Lib.hid (U1.out.trans hu2)
      have H1 := Lib.hid (Held.of_new h1)
      clear hu2 h1 U1
      go_wp2_with fail
      refine (cloneInt aI u cI (fun m => (f m : Int)) _ (by omega) (HI2.out.upd U2.out)).mono ?_
      rintro e w3 ⟨a2, c2, rfl, hu3, h2⟩
      have U3 := Lib.hid (U2.out.trans hu3)
      have H1 := Lib.hid ((H1.out.upd hu3 (fun c h => h.elim)).mono hu3.size)
      have H2 := Lib.hid (Held.of_new h2)
      clear hu3 h2 U2
      go_wp2_with fail
      refine (cloneInt aB k cB lb _ (by omega) (HB.out.upd U3.out)).mono ?_
      rintro e w4 ⟨a3, c3, rfl, hu4, h3⟩
      have U4 := Lib.hid (U3.out.trans hu4)
      have H1 := Lib.hid ((H1.out.upd hu4 (fun c h => h.elim)).mono hu4.size)
      have H2 := Lib.hid ((H2.out.upd hu4 (fun c h => h.elim)).mono hu4.size)
      have H3 := Lib.hid (Held.of_new h3)
      clear hu4 h3 U3
      go_wp2_with fail
      refine (cloneBool aG k cG g _ (by omega) (HG.out.upd U4.out)).mono ?_
      rintro e w5 ⟨a4, c4, rfl, hu5, h4⟩
      have U5 := Lib.hid (U4.out.trans hu5)
      have H1 := Lib.hid ((H1.out.upd hu5 (fun c h => h.elim)).mono hu5.size)
      have H2 := Lib.hid ((H2.out.upd hu5 (fun c h => h.elim)).mono hu5.size)
      have H3 := Lib.hid ((H3.out.upd hu5 (fun c h => h.elim)).mono hu5.size)
      have H4 := Lib.hid (Held.of_new h4)
      clear hu5 h4 U4
      go_wp2_with fail
      refine (build_uv a1 a2 a3 a4 n c1 u c2 k c3 c4 s f lb g _ hn hu hk H1.out H2.out H3.out H4.out).mono ?_
      rintro e w6 ⟨S, R, A, B, F, M, fb, fr, rfl, hbu⟩
      have BU := Lib.hid hbu
      clear hbu H1 H2 H3 H4
      have hvs : ∀ i, i < u → f i < n + 1 ∧ vals s n (f i) = sv (s (f i)) := fun i hi => ⟨by have := HFN.out i hi; omega, by unfold vals; rw [if_pos (HFN.out i hi)]⟩
      have VS := Lib.hid hvs
      clear hvs
      go_wp2_with fail
      refine (zz_close_all S R A B F (n + 1) n k (M + 1) u u false false (vals s n) fr f (fun i => s (f i)) fb g lb _ (close_all S R A B F (n + 1) n k (M + 1) u u false false (vals s n) fr f (fun i => s (f i)) fb g lb _ (Nat.le_refl _) (by omega) hk ASC.out VS.out BU.out.ord BU.out.fbs BU.out.st BU.out.nds BU.out.frs)).mono ?_
      rintro e w7 ⟨rfl, c, hc, hlo, hhi, hu7, hs7, hn7⟩
      have old := BU.out.old
      have hS : ∀ b, (b = S ∨ M + 1 ≤ b ∧ b < M + 1 + u) → w5.heap.size ≤ b := fun b hb => by omega
      have hM7 := hu7.blk BU.out.nodes (by have := BU.out.sm; omega)
      have U7 := Lib.hid ((U5.out.trans BU.out.upd).trans_new hu7 (fun b hb => Nat.le_trans U5.out.size (hS b hb)))
      have F7 := Lib.hid (BU.out.frs.upd hu7 (fun i hi => by have := BU.out.fbs i hi; have := BU.out.ord; omega))
      have LO := Lib.hid hlo
      have S7 := Lib.hid hs7
      have N7 := Lib.hid hn7
      have M7 := Lib.hid hM7
      have OLD := Lib.hid (show w.heap.size ≤ S ∧ w.heap.size ≤ M from ⟨Nat.le_trans U5.out.size old.1, Nat.le_trans U5.out.size old.2⟩)
      have ltS := Lib.hid hs7.st.lt
      have ltN := Lib.hid (show ∀ b, (b = S ∨ M + 1 ≤ b ∧ b < M + 1 + u) → b < w7.heap.size from fun b hb => by
        rcases hb with rfl | hb
        · exact hs7.st.lt
        · have h := (hn7 (b - (M + 1)) (by omega)).lt
          have e : M + 1 + (b - (M + 1)) = b := by omega
          rw [e] at h
          exact h)
      have ORD := Lib.hid BU.out.ord
      have FBS := Lib.hid BU.out.fbs
      have SM := Lib.hid BU.out.sm
      clear hlo hhi hu7 hs7 hn7 hM7 hS old BU U5
      have hmb := mk_cloneBool u (by omega)
      have hms := mk_cloneStr u (by omega)
      go_wp2_with fail
      obtain ⟨P, hP⟩ : ∃ P, w7.heap.size = P := ⟨_, rfl⟩
      have hA1 : ∀ (l1 l2 l3 : List Value) (t1 t2 t3 : TypeId), Blk (((w7.alloc (.cells l1.toArray t1)).alloc (.cells l2.toArray t2)).alloc (.cells l3.toArray t3)) P l1 t1 ∧ Blk (((w7.alloc (.cells l1.toArray t1)).alloc (.cells l2.toArray t2)).alloc (.cells l3.toArray t3)) (P + 1) l2 t2 ∧ Blk (((w7.alloc (.cells l1.toArray t1)).alloc (.cells l2.toArray t2)).alloc (.cells l3.toArray t3)) (P + 1 + 1) l3 t3 := fun l1 l2 l3 t1 t2 t3 =>
        ⟨((Blk.new_at hP.symm _ _).alloc _).alloc _, (Blk.new_at (by simp [hP]) _ _).alloc _, Blk.new_at (by simp [hP]) _ _⟩
      have BA := Lib.hid (hA1 (filled u 0 (fun m => .bool (decide (c ≤ m))) (.bool false)) (filled u 0 (fun m => .string (txt c (fun i => s (f i)) m)) (.string ByteArray.empty)) (filled u 0 (fun m => .bool (decide (c ≤ m))) (.bool false)) 4 9 4)
      have UA := Lib.hid (show ∀ o1 o2 o3, Upd (fun _ => False) w7 (((w7.alloc o1).alloc o2).alloc o3) from fun _ _ _ => (((Upd.refl _ _).alloc _).alloc _).alloc _)
      have hMP : M < P := by rw [← hP]; exact M7.out.lt
      have hNP : ∀ i, i < u → M + 1 + i < P := fun i hi => by rw [← hP]; exact (N7.out i hi).lt
      rw [filled_zero u (fun m => .bool (decide (c ≤ m))) (.bool false), filled_zero u (fun m => .string (txt c (fun i => s (f i)) m)) (.string ByteArray.empty), hP]
      clear hA1 hmb hms
      have HNP := Lib.hid hNP
      have HP := Lib.hid hP
      clear hNP hP
      go_loopw [14] (fun i wr => ∃ j : Nat, j ≤ u ∧ i = .int .i64 j ∧ Upd (fun _ => False) w7 wr ∧ Blk wr P (filled u j (fun m => .bool (decide (c ≤ m))) (.bool false)) 4 ∧ Blk wr (P + 1) (filled u j (fun m => .string (txt c (fun i => s (f i)) m)) (.string ByteArray.empty)) 9 ∧ Blk wr (P + 1 + 1) (filled u j (fun m => .bool (decide (c ≤ m))) (.bool false)) 4) (fun i _ => u - (intOf i).toNat)
      case atStart => exact ⟨0, Nat.zero_le _, rfl, UA.out _ _ _, BA.out⟩
      case round =>
        obtain ⟨j, hj, rfl, hu8, hb1, hb2, hb3⟩ := hrel
        have U8 := Lib.hid hu8
        have B1 := Lib.hid hb1
        have B2 := Lib.hid hb2
        have B3 := Lib.hid hb3
        clear hu8 hb1 hb2 hb3 UA BA
        by_cases hlt : j < u
        · have hcm := (U8.out.blk M7.out (fun h => h)).at (tab_in hlt)
          have h1 := B1.out.at (filled_at hlt)
          have h2 := B2.out.at (filled_at hlt)
          have h3 := B3.out.at (filled_at hlt)
          have g1 := B1.out.free j
          have g2 := B2.out.free j
          have g3 := B3.out.free j
          have n1 : M ≠ P := by omega
          have n2 : P + 1 ≠ P := by omega
          have n3 : P + 1 + 1 ≠ P := by omega
          have n4 : P + 1 + 1 ≠ P + 1 := by omega
          have n5 : M ≠ P + 1 := by omega
          go_wp2_with fail
          refine (uv_closed (M + 1 + j) R (nod (M + 1) (j + 1) c) (f j) _ (decide (c ≤ j)) _ (by exact Upd.nds U8.out N7.out j hlt)).mono ?_
          rintro e w9 ⟨rfl, rfl⟩
          go_wp2_with fail
          have NW := Lib.hid (show Nds (wr.setCell ⟨P, j, none⟩ (.bool (decide (c ≤ j)))) (M + 1) R u c f (fun i => s (f i)) from fun i hi => (Upd.nds U8.out N7.out i hi).set_other _ _ (by have := HNP.out i hi; dsimp only; omega))
          refine (uv_val (M + 1) R u c j f (fun i => s (f i)) _ hlt (by exact NW.out)).mono ?_
          rintro e w9 ⟨rfl, rfl⟩
          go_wp2
          go_roundw
          case rel =>
            refine ⟨j + 1, by omega, by go_num, ((U8.out.setCell _ _ (.inr ?_)).setCell _ _ (.inr ?_)).setCell _ _ (.inr ?_), ?_, ?_, ?_⟩
            · exact Nat.le_of_eq HP.out
            · have := HP.out; dsimp only; omega
            · have := HP.out; dsimp only; omega
            · rw [← filled_set]; exact ((B1.out.set j _).set_other _ _ (by dsimp only; omega)).set_other _ _ (by dsimp only; omega)
            · rw [← filled_set]; exact ((B2.out.set_other _ _ (by dsimp only; omega)).set j _).set_other _ _ (by dsimp only; omega)
            · rw [← filled_set]; exact ((B3.out.set_other _ _ (by dsimp only; omega)).set_other _ _ (by dsimp only; omega)).set j _
          case measure => simp [intOf]; omega
        · obtain rfl : j = u := by omega
          rw [filled_full] at B1 B2 B3
          have T1 := Lib.hid (show Upd (fun _ => False) w wr from U7.out.trans_new U8.out (fun _ h => h.elim))
          have S8 := Lib.hid (S2.false S7.out U8.out)
          have N8 := Lib.hid (Upd.nds U8.out N7.out)
          have F8 := Lib.hid (F7.out.upd U8.out (fun _ _ h => h))
          have M8 := Lib.hid (U8.out.blk M7.out (fun h => h))
          have LTS := Lib.hid (show ∀ b, (b = S ∨ M + 1 ≤ b ∧ b < M + 1 + j) → b < P ∧ w.heap.size ≤ b from fun b hb => ⟨by rw [← HP.out]; exact ltN.out b hb, by have := OLD.out; omega⟩)
          have PL := Lib.hid (show P ≤ wr.heap.size by have := U8.out.size; rw [HP.out] at this; exact this)
          clear S7 N7 F7 M7 U8 U7 ltS ltN HP
          go_wp2_with fail
          refine (cache S R B (M + 1) j c _ false false f (fun i => s (f i)) _ hu hc S8.out.st N8.out).mono ?_
          rintro e w9 ⟨d1, e1, rfl, hu9, hf9⟩
          have S9 := Lib.hid (S2.false S8.out hu9)
          have N9 := Lib.hid (Upd.nds hu9 N8.out)
          have F9 := Lib.hid (F8.out.upd hu9 (fun _ _ h => h))
          have M9 := Lib.hid (hu9.blk M8.out (fun h => h))
          have C1 := Lib.hid (hu9.blk B1.out (fun h => h))
          have C2 := Lib.hid (hu9.blk B2.out (fun h => h))
          have C3 := Lib.hid (hu9.blk B3.out (fun h => h))
          have FR1 := Lib.hid hf9
          have T2 := Lib.hid (T1.out.trans hu9)
          clear hu9 hf9 S8 N8 F8 M8 B1 B2 B3 T1
          go_wp2_with fail
          refine (zz_close_all S R A B F (n + 1) n k (M + 1) j c false false (vals s n) fr f (fun i => s (f i)) fb g lb _ (close_all S R A B F (n + 1) n k (M + 1) j c false false (vals s n) fr f (fun i => s (f i)) fb g lb _ hc (by omega) hk ASC.out VS.out ORD.out FBS.out S9.out N9.out F9.out)).mono ?_
          rintro e w10 ⟨rfl, c2', hcc, hlo2, hhi2, hu10, hs10, hn10⟩
          obtain rfl : c2' = c := by
            by_cases e : c2' = c
            · exact e
            · obtain ⟨m, h1, h2, h3⟩ := hhi2 c2' (Nat.le_refl _) (by omega)
              have := LO.out c2' (by omega) m h1 h2
              omega
          clear hlo2 hhi2 hcc
          have hne : ∀ b, P ≤ b → ¬ (b = S ∨ M + 1 ≤ b ∧ b < M + 1 + j) := fun b hb h => by have := LTS.out b h; omega
          have D1 := Lib.hid (hu10.blk C1.out (hne _ (by omega)))
          have D2 := Lib.hid (hu10.blk C2.out (hne _ (by omega)))
          have D3 := Lib.hid (hu10.blk C3.out (hne _ (by omega)))
          have M10 := Lib.hid (hu10.blk M9.out (by have := SM.out; omega))
          have FR1 := Lib.hid (FR1.out.upd hu10 (fun b hb => by have := LTS.out b hb; have := PL.out; omega))
          have T3 := Lib.hid (T2.out.trans_new hu10 (fun b hb => (LTS.out b hb).2))
          have S10 := Lib.hid hs10
          have N10 := Lib.hid hn10
          clear hu10 hs10 hn10 hne C1 C2 C3 M9 S9 N9 F9 T2
          go_wp2_with fail
          refine (cache S R B (M + 1) j c2' _ false false f (fun i => s (f i)) _ hu hc S10.out.st N10.out).mono ?_
          rintro e w11 ⟨d2, e2, rfl, hu11, hf11⟩
          have N11 := Lib.hid (Upd.nds hu11 N10.out)
          have M11 := Lib.hid (hu11.blk M10.out (fun h => h))
          have E1 := Lib.hid (hu11.blk D1.out (fun h => h))
          have E2 := Lib.hid (hu11.blk D2.out (fun h => h))
          have E3 := Lib.hid (hu11.blk D3.out (fun h => h))
          have G1 := Lib.hid (FR1.out.upd hu11 (fun _ h => h.elim))
          have G2 := Lib.hid hf11
          have T4 := Lib.hid (T3.out.trans hu11)
          clear hu11 hf11 N10 M10 D1 D2 D3 FR1 T3 S10
          clear HR HB HG HS HI2 HFN ASC VS LO LTS PL SM FBS ORD OLD HNP
          go_wp2_with fail
          go_loopw [21] (fun i wq => ∃ m : Nat, m ≤ c2' ∧ i = .int .i64 m ∧ Upd (fun _ => False) w11 wq) (fun i _ => c2' - (intOf i).toNat)
          case atStart => exact ⟨0, Nat.zero_le _, rfl, Upd.refl _ _⟩
          case round =>
            obtain ⟨m, hm, rfl, hu12⟩ := hrel
            have V1 := Lib.hid hu12
            clear hu12
            by_cases hlt2 : m < c2'
            · obtain ⟨b1, rfl, _, k1⟩ := (G1.out.upd V1.out (fun _ h => h.elim)) m hlt2
              obtain ⟨b2, rfl, _, k2⟩ := (G2.out.upd V1.out (fun _ h => h.elim)) m hlt2
              have i1 : (0 : Int) ≤ (m : Int) := by omega
              have i2 : (m : Int) < (c2' : Int) := by omega
              go_wp2_with fail
              go_quiet (fail)
              go_wp2
              go_roundw
              case rel => exact ⟨m + 1, by omega, by go_num, V1.out.drewN _⟩
              case measure => simp [intOf]; omega
            · obtain rfl : m = c2' := by omega
              go_wp2_with fail
              go_loopw [22] (fun i wq => ∃ m : Nat, m ≤ j ∧ i = .int .i64 m ∧ Upd (fun _ => False) w11 wq) (fun i _ => j - (intOf i).toNat)
              case atStart => exact ⟨0, Nat.zero_le _, rfl, V1.out⟩
              case round =>
                obtain ⟨q, hq, rfl, hu13⟩ := hrel
                have V2 := Lib.hid hu13
                clear hu13
                by_cases hlt3 : q < j
                · have k0 := (V2.out.blk M11.out (fun h => h)).at (tab_in hlt3)
                  have k1 := (V2.out.blk E1.out (fun h => h)).at (tab_in hlt3)
                  have k2 := (V2.out.blk E2.out (fun h => h)).at (tab_in hlt3)
                  have k3 := (V2.out.blk E3.out (fun h => h)).at (tab_in hlt3)
                  have NN := Lib.hid (Upd.nds V2.out N11.out)
                  have i1 : (0 : Int) ≤ (q : Int) := by omega
                  have i2 : (q : Int) < (j : Int) := by omega
                  go_wp2_with fail
                  refine (uv_val (M + 1) R j m q f (fun i => s (f i)) _ hlt3 (by exact NN.out)).mono ?_
                  rintro e w14 ⟨rfl, rfl⟩
                  by_cases hmq : m ≤ q
                  · rw [decide_eq_true hmq] at k1 k3 ⊢
                    go_wp2_with fail
                    go_quiet ((go_at_call 36; exact Calls.quiet_of_same ((uv_closed (M + 1 + q) R (nod (M + 1) (q + 1) m) (f q) _ (decide (m ≤ q)) _ (by exact NN.out q hlt3)).mono (fun _ _ h => ⟨h.1.trans (by rw [decide_eq_true hmq]), h.2.symm⟩))))
                    go_wp2
                    go_roundw
                    case rel => exact ⟨q + 1, by omega, by go_num, V2.out.drewN _⟩
                    case measure => simp [intOf]; omega
                  · rw [decide_eq_false hmq] at k1 k3 ⊢
                    go_wp2_with fail
                    go_quiet ((go_at_call 36; exact Calls.quiet_of_same ((uv_closed (M + 1 + q) R (nod (M + 1) (q + 1) m) (f q) _ (decide (m ≤ q)) _ (by exact NN.out q hlt3)).mono (fun _ _ h => ⟨h.1.trans (by rw [decide_eq_false hmq]), h.2.symm⟩))))
                    go_wp2
                    go_roundw
                    case rel => exact ⟨q + 1, by omega, by go_num, V2.out.drewN _⟩
                    case measure => simp [intOf]; omega
                · obtain rfl : q = j := by omega
                  have T5 := Lib.hid (T4.out.trans_new V2.out (fun _ h => h.elim))
                  go_wp2
                  go_ret
                  exact ⟨rfl, T5.out.below (Nat.le_refl _) (fun _ h => h.elim)⟩
set_option maxHeartbeats 1600000 in
theorem idem_long (aR aI aB aG : Option Addr) (n cR u cI k cB q cG : Nat) (s : Nat → ByteArray) (w : World) (h0 : n ≤ 9223372036854775807) (h1 : u ≤ 9223372036854775807) (h2 : k ≤ 9223372036854775807) (h3 : q ≤ 9223372036854775807)
    (hl : ¬ (n ≤ 4096 ∧ u ≤ 4096 ∧ k ≤ 4096 ∧ q ≤ 4096)) (hR : Cells w aR n fun j => .string (s j)) :
    Calls Tryz.prog 7 #[.slice aR n cR, .slice aI u cI, .slice aB k cB, .slice aG q cG] w (Good w) := by
  have HR := Lib.hid hR
  clear hR
  go_enter Tryz.func7, Tryz.ntmps7
  go_wp2_with fail
  refine (guard_idem aR aI aB aG n cR u cI k cB q cG s _ h0 h1 h2 h3 HR.out).mono ?_
  rintro e w' ⟨b, rfl, rfl, hs⟩
  clear hs
  cases b with
  | false =>
    go_wp2
    go_ret
    exact ⟨rfl, Below.refl _ _⟩
  | true =>
    by_cases l0 : n ≤ 4096
    case neg =>
      go_wp2
      all_goals
        go_ret
        exact ⟨rfl, Below.refl _ _⟩
    by_cases l1 : u ≤ 4096
    case neg =>
      go_wp2
      all_goals
        go_ret
        exact ⟨rfl, Below.refl _ _⟩
    by_cases l2 : k ≤ 4096
    case neg =>
      go_wp2
      all_goals
        go_ret
        exact ⟨rfl, Below.refl _ _⟩
    have l3 : ¬ q ≤ 4096 := fun h => hl ⟨l0, l1, l2, h⟩
    clear hl
    go_wp2
    all_goals
      go_ret
      exact ⟨rfl, Below.refl _ _⟩
end Go.Proofs.YtkoiadebacdklaaGreatFmt
