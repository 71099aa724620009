/- FnRaiseErrorClosesUpvaluesUnlessHandled: walked. -/
import Derived.Test.YtkoiadebacdklaaGreatFmtRac
import Derived.Test.YtkoiadebacdklaaGreatFmtUvi
namespace Go.Proofs.YtkoiadebacdklaaGreatFmt
open Go.RowKit
set_option maxRecDepth 100000

/-- The law's own FunctionProto. -/
def lawP : List Value := [.string ⟨#[108, 97, 119]⟩, .int .i64 0, .int .i64 0, .int .u8 0, .int .u8 0, .int .u8 0, .int .u8 0, .slice none 0 0, .slice none 0 0, .slice none 0 0, .slice none 0 0, .slice none 0 0, .slice none 0 0, .slice none 0 0, .slice none 0 0]

/-- What closing leaves of the upvalues: the first c stay open. -/
def Shut (M R u : Nat) (f : Nat → Nat) (t : Nat → ByteArray) (lb : Int) (uv : Option Addr) (w : World) : Prop :=
  ∃ c, c ≤ u ∧ uv = nod (M + 1) 0 c ∧ (∀ i, i < c → (f i : Int) < lb) ∧ (∀ i, c ≤ i → i < u → lb ≤ (f i : Int)) ∧ Nds w (M + 1) R u c f t

theorem close_one (S R A B F n M u : Nat) (v : Nat → Value) (fr : Nat → List Value) (f : Nat → Nat) (t : Nat → ByteArray) (fn : Nat) (lb : Int) (err : Bool) (w : World) (he : err = false)
    (hn : n ≤ 4096) (asc : ∀ i j, i < j → j < u → f i < f j) (hf : ∀ i, i < u → f i < n + 1 ∧ v (f i) = sv (t i)) (hS : S < M + 1 ∧ R < M + 1 ∧ A < M + 1 ∧ B < M + 1 ∧ F < M + 1) (hfb : M + 1 + u ≤ fn)
    (hfr : fr 0 = frm 0 fn none 1 lb lb) (h : S2 w S R A B F (n + 1) n 1 1 (below F 1) (nod (M + 1) 0 u) false err v fr) (hnd : Nds w (M + 1) R u u f t) (P : Option Addr) (hfn : Blk w fn (fnl false P) 59) :
    Calls Tryz.prog 63 #[.pointer (some ⟨S, 0, none⟩)] w (Mid S R A B F (n + 1) n 1 1 (below F 1) v fr (fun b => b = S ∨ M + 1 ≤ b ∧ b < M + 1 + u) (Shut M R u f t lb) w) := by
  subst he
  have hr : Frs w F 1 (fun _ => fn) (fun _ => false) (fun _ => lb) fr := ⟨fun i hi => ⟨1, lb, by
    obtain rfl : i = 0 := by omega
    rw [hfr]; unfold below; rw [if_pos rfl]⟩, fun i hi => by
    obtain rfl : i = 0 := by omega
    rw [hfr]; rfl, fun i _ => ⟨P, hfn⟩⟩
  refine (close_all S R A B F (n + 1) n 1 (M + 1) u u false false v fr f t (fun _ => fn) (fun _ => false) (fun _ => lb) w (Nat.le_refl _) (by omega) (by omega) asc hf hS (fun _ _ => hfb) h hnd hr).mono ?_
  rintro e w' ⟨rfl, c, hc, hlo, hhi, hu, hs, hn'⟩
  exact ⟨rfl, _, hu, ⟨c, hc, rfl, fun i hi => hlo i hi 0 (by omega) rfl, fun i h1 h2 => by obtain ⟨_, _, _, h⟩ := hhi i h1 h2; exact h, hn'⟩, hs⟩

set_option maxHeartbeats 3200000 in
theorem shut_in (aR aI : Option Addr) (n cR u cI : Nat) (lb : Int) (err : Bool) (fm : ByteArray) (s : Nat → ByteArray) (x : Nat → Int) (w : World) (hn : n ≤ 4096) (hu : u ≤ 4096)
    (hR : Cells w aR n fun j => .string (s j)) (hI : Cells w aI u fun j => .int .i64 (x j)) :
    Calls Tryz.prog 5 #[.slice aR n cR, .slice aI u cI, .int .i64 lb, .bool err, .string fm] w (Good w) := by
  have HR := Lib.hid hR
  have HI := Lib.hid hI
  clear hR hI
  go_enter Tryz.func5, Tryz.ntmps5
  go_wp2_with fail
  refine (guard_shut aR aI n cR u cI lb err fm s _ (by omega) (by omega) HR.out).mono ?_
  rintro e w' ⟨b, rfl, rfl, hs⟩
  cases b with
  | false =>
    go_wp2
    go_ret
    exact ⟨rfl, Below.refl _ _⟩
  | true =>
    have HS := Lib.hid (hs rfl)
    clear hs
    by_cases hf : fm.size ≤ 65536
    case neg =>
      go_wp2
      go_ret
      exact ⟨rfl, Below.refl _ _⟩
    go_wp2_with fail
    refine (str_bytes aR n cR s _ hn HR.out HS.out).mono ?_
    rintro e w' ⟨z, hz, rfl, rfl⟩
    by_cases hbig : z + 8 * u + fm.size ≤ 1048576
    case neg =>
      go_wp2
      go_ret
      exact ⟨rfl, Below.refl _ _⟩
    by_cases f1 : lb < 0
    · go_wp2
      go_ret
      exact ⟨rfl, Below.refl _ _⟩
    by_cases f2 : (n : Int) < lb
    · go_wp2
      go_ret
      exact ⟨rfl, Below.refl _ _⟩
    go_wp2_with fail
    refine (premise aI none n u cI 0 0 x (fun _ => 0) _ hn hu (by omega) HI.out (fun j h => by omega)).mono ?_
    rintro e w1 ⟨b, rfl, hu1, hp⟩
    have U1 := Lib.hid hu1
    clear hu1 hz hbig
    cases b with
    | false =>
      go_wp2
      go_ret
      exact ⟨rfl, U1.out.below (Nat.le_refl _) (fun _ h => h.elim)⟩
    | true =>
      have hp := hp rfl
      have hx : ∀ m, m < u → ((x m).toNat : Int) = x m := fun m hm => by have := hp m hm; omega
      have hfn : ∀ m, m < u → (x m).toNat < n := fun m hm => by have := hp m hm; omega
      have hasc : ∀ i j, i < j → j < u → (x i).toNat < (x j).toNat := asc_of (f := fun m => (x m).toNat) (fun m hm h0 => by have h1 := hp m hm; have h2 := hp (m - 1) (by omega); have h3 := h1.2.2 h0; omega)
      obtain ⟨f, hf⟩ : ∃ f : Nat → Nat, (fun m => (x m).toNat) = f := ⟨_, rfl⟩
      have hf' : ∀ m, (x m).toNat = f m := fun m => congrFun hf m
      simp only [hf'] at hx hfn hasc
      have hI2 : Cells w aI u fun j => .int .i64 (f j : Int) := fun j hj => by
        obtain ⟨a, h1, h2⟩ := HI.out j hj
        exact ⟨a, h1, by show _ = some (Value.int .i64 (f j : Int)); rw [hx j hj]; exact h2⟩
      have HI2 := Lib.hid hI2
      have HFN := Lib.hid hfn
      have ASC := Lib.hid hasc
      clear hx hfn hasc hf hf' hp hI2 HI
      go_wp2_with fail
      refine (cloneStr aR n cR s _ (by omega) (HR.out.upd U1.out)).mono ?_
      rintro e w2 ⟨a1, c1, rfl, hu2, h1⟩
      have U2 := Lib.hid (U1.out.trans hu2)
      have H1 := Lib.hid (Held.of_new h1)
      clear hu2 h1 U1
      go_wp2_with fail
      refine (cloneInt aI u cI (fun m => (f m : Int)) _ (by omega) (HI2.out.upd U2.out)).mono ?_
      rintro e w3 ⟨a2, c2, rfl, hu3, h2⟩
      have U3 := Lib.hid (U2.out.trans hu3)
      have H1 := Lib.hid ((H1.out.upd hu3 (fun c h => h.elim)).mono hu3.size)
      have H2 := Lib.hid (Held.of_new h2)
      clear hu3 h2 U2
      go_wp2_with fail
      refine (new_state2 n 1 1 _ (by omega) (by omega) (by omega)).mono ?_
      rintro e w4 ⟨S, R, A, B, F, rfl, hu4, hold, hs4⟩
      have U4 := Lib.hid hu4
      have S4 := Lib.hid hs4
      have OLD := Lib.hid hold
      clear hu4 hs4 hold
      go_wp2_with fail
      go_loopw [13] (fun i wr => ∃ j : Nat, j ≤ n ∧ i = .int .i64 j ∧ Upd (fun _ => False) w3 wr ∧ S2 wr S R A B F (n + 1) n 1 0 none none false false (vals s j) (fun _ => fr0)) (fun i _ => n - (intOf i).toNat)
      case atStart =>
        refine ⟨0, Nat.zero_le _, rfl, U4.out, ?_⟩
        have e : vals s 0 = fun _ => Value.nilIface := by funext m; unfold vals; rw [if_neg (by omega)]
        rw [e]
        exact S4.out
      case round =>
        obtain ⟨j, hj, rfl, hu5, hs5⟩ := hrel
        have U5 := Lib.hid hu5
        have S5 := Lib.hid hs5
        clear hu5 hs5 S4 U4
        by_cases hlt : j < n
        · obtain ⟨b, off, rfl, hbl, hc⟩ := (H1.out.upd U5.out (fun c h => h.elim)) j hlt
          have i1 : (0 : Int) ≤ (j : Int) := by omega
          have i2 : (j : Int) < (n : Int) := by omega
          clear hbl
          go_wp2_with fail
          refine (set_reg S R A B F (n + 1) n 1 0 j none none false false (vals s j) (fun _ => fr0) (s j) _ (by omega) (by omega) S5.out).mono ?_
          rintro e w6 ⟨rfl, hu6, hs6⟩
          have U6 := Lib.hid (U5.out.trans_new hu6 (fun c h => by have h : c = A := h; have := OLD.out; omega))
          have S6 := Lib.hid hs6
          clear hu6 hs6
          go_wp2
          go_roundw
          case rel => exact ⟨j + 1, by omega, by go_num, U6.out, by rw [vals_succ]; exact S6.out⟩
          case measure => simp [intOf]; omega
        · obtain rfl : j = n := by omega
          have hI5 := (H2.out.upd U5.out (fun c h => h.elim)).mono U5.out.size
          go_wp2_with fail
          refine (set_upvalues S R A B F (j + 1) j 1 0 none false false (vals s j) (fun _ => fr0) a2 u c2 f (fun i => s (f i)) _ hu S5.out hI5).mono ?_
          rintro e w6 ⟨rfl, hu6, hs6, hb6, hn6⟩
          have lts : S < wr.heap.size ∧ R < wr.heap.size ∧ A < wr.heap.size ∧ B < wr.heap.size ∧ F < wr.heap.size := ⟨S5.out.st.lt, S5.out.rg.lt, S5.out.ar.lt, S5.out.sk.lt, S5.out.fs.lt⟩
          obtain ⟨M, hM⟩ : ∃ M, wr.heap.size = M := ⟨_, rfl⟩
          have hwM : w3.heap.size ≤ M := by rw [← hM]; exact U5.out.size
          rw [hM] at hs6 hb6 hn6 lts ⊢
          have U6 := Lib.hid (U5.out.trans_new hu6 (fun c h => by have h : c = S := h; have := OLD.out; omega))
          have hsz : M + 1 + u ≤ w6.heap.size := by
            by_cases h0 : u = 0
            · have := hb6.lt; omega
            · have := (hn6 (u - 1) (by omega)).lt; omega
          have S6 := Lib.hid hs6
          have B6 := Lib.hid hb6
          have N6 := Lib.hid hn6
          have LT := Lib.hid lts
          have HSZ := Lib.hid hsz
          have HWM := Lib.hid hwM
          clear hu6 hs6 hb6 hn6 hI5 lts hM U5 S5 hsz hwM
          have UA := Lib.hid (show Upd (fun _ => False) w6 ((w6.alloc (.cells lawP.toArray 65)).alloc (.cells (fnl false (some ⟨w6.heap.size, 0, none⟩)).toArray 59)) from ((Upd.refl _ _).alloc _).alloc _)
          have HFN2 := Lib.hid (show Blk ((w6.alloc (.cells lawP.toArray 65)).alloc (.cells (fnl false (some ⟨w6.heap.size, 0, none⟩)).toArray 59)) (w6.heap.size + 1) (fnl false (some ⟨w6.heap.size, 0, none⟩)) 59 from Blk.new_at (by simp) _ _)
          go_wp2_with fail
          refine (push_frame S R A B F (j + 1) j 1 0 (w6.heap.size + 1) none (nod (M + 1) 0 u) false false (vals s j) (fun _ => fr0) lb lb 1 _ (by omega) (by omega) (fun _ _ => rfl) (by exact S6.out.new UA.out)).mono ?_
          rintro e w8 ⟨rfl, hu8, hs8⟩
          have lt := LT.out
          have hsz := HSZ.out
          have old := OLD.out
          have hwM := HWM.out
          have hFN8 := hu8.blk HFN2.out (fun h => by rcases h with h | h | h <;> omega)
          have hB8 := hu8.blk (UA.out.blk B6.out (fun h => h)) (fun h => by rcases h with h | h | h <;> omega)
          have hN8 : Nds w8 (M + 1) R u u f (fun i => s (f i)) := fun i hi => hu8.blk (UA.out.blk (N6.out i hi) (fun h => h)) (fun h => by rcases h with h | h | h <;> omega)
          have U8 := Lib.hid ((U6.out.trans UA.out).trans_new hu8 (fun c h => by rcases h with h | h | h <;> omega))
          have e2 : below F 1 = some ⟨F, 0 * 10, none⟩ := by unfold below; rw [if_neg (by omega)]
          rw [← e2] at hs8
          have S8 := Lib.hid hs8
          have B8 := Lib.hid hB8
          have N8 := Lib.hid hN8
          have FN8 := Lib.hid hFN8
          have HFB := Lib.hid (show M + 1 + u ≤ w6.heap.size + 1 by omega)
          clear hu8 hs8 hB8 hN8 hFN8 e2 lt hsz old hwM UA HFN2 U6 S6 B6 N6
          go_wp2_with fail
          refine (set_err S R A B F (j + 1) j 1 1 (below F 1) (nod (M + 1) 0 u) false false err (vals s j) _ _ S8.out).mono ?_
          rintro e w9 ⟨rfl, hu9, hs9⟩
          have lt := LT.out
          have old := OLD.out
          have hfb := HFB.out
          have hB9 := hu9.blk B8.out (fun h => by have h : M = S := h; omega)
          have hN9 : Nds w9 (M + 1) R u u f (fun i => s (f i)) := fun i hi => hu9.blk (N8.out i hi) (fun h => by have h : M + 1 + i = S := h; omega)
          have hFN9 := hu9.blk FN8.out (fun h => by have h : w6.heap.size + 1 = S := h; omega)
          have U9 := Lib.hid (U8.out.trans_new hu9 (fun c h => by have h : c = S := h; omega))
          have S9 := Lib.hid hs9
          have B9 := Lib.hid hB9
          have N9 := Lib.hid hN9
          have FN9 := Lib.hid hFN9
          have ORD := Lib.hid (show S < M + 1 ∧ R < M + 1 ∧ A < M + 1 ∧ B < M + 1 ∧ F < M + 1 by omega)
          clear hu9 hs9 hB9 hN9 hFN9 lt old hfb U8 S8 B8 N8 FN8
          go_wp2_with fail
          refine (zz_raise S R A B F (j + 1) j 1 1 (below F 1) (nod (M + 1) 0 u) err (vals s j) _ (fun b => b = S ∨ M + 1 ≤ b ∧ b < M + 1 + u) (Shut M R u f (fun i => s (f i)) lb) fm _ (by omega) (by omega) (one_vals s j _) S9.out
            (fun he => close_one S R A B F j M u (vals s j) _ f (fun i => s (f i)) (w6.heap.size + 1) lb err _ he hn ASC.out (fun i hi => ⟨by have := HFN.out i hi; omega, by unfold vals; rw [if_pos (HFN.out i hi)]⟩) ORD.out HFB.out rfl S9.out N9.out _ FN9.out)).mono ?_
          rintro e w11 ⟨rfl, uv1, w10, hwhy, A', cap', hc', hcm, hA', hu11, hs11⟩
          have key : ∃ c, c ≤ u ∧ uv1 = nod (M + 1) 0 c ∧ (∀ i, i < u → (c ≤ i ↔ (!err) = true ∧ lb ≤ (f i : Int))) ∧ Nds w10 (M + 1) R u c f (fun i => s (f i)) ∧ Upd (fun b => b = S ∨ M + 1 ≤ b ∧ b < M + 1 + u) w9 w10 := by
            rcases hwhy with ⟨rfl, rfl, rfl⟩ | ⟨rfl, hU, c, hc, rfl, hlo, hhi, hn⟩
            · exact ⟨u, Nat.le_refl _, rfl, fun i hi => ⟨fun h => absurd h (by omega), fun h => by simp at h⟩, N9.out, Upd.refl _ _⟩
            · exact ⟨c, hc, rfl, fun i hi => ⟨fun h => ⟨rfl, hhi i h hi⟩, fun h => by
                by_cases ci : c ≤ i
                · exact ci
                · have := hlo i (by omega); have := h.2; omega⟩, hn, hU⟩
          obtain ⟨c, hc, huv, hiff, hn10, hu10⟩ := key
          rw [huv] at hs11
          have lt := LT.out
          have old := OLD.out
          have hwM := HWM.out
          have hB11 := hu11.blk (hu10.blk B9.out (fun h => by omega)) (fun h => by rcases h with h | h | h <;> omega)
          have hN11 : Nds w11 (M + 1) R u c f (fun i => s (f i)) := fun i hi => hu11.blk (hn10 i hi) (fun h => by rcases h with h | h | h <;> omega)
          have hu11' := (U9.out.trans_new hu10 (fun b h => by omega)).trans_new hu11 (fun b h => by rcases h with h | h | h <;> omega)
          have T11 := Lib.hid (U3.out.trans hu11')
          have H1 := Lib.hid (H1.out.upd hu11' (fun c h => h.elim))
          have H2 := Lib.hid (H2.out.upd hu11' (fun c h => h.elim))
          have S11 := Lib.hid hs11
          have B11 := Lib.hid hB11
          have N11 := Lib.hid hN11
          have IFF := Lib.hid hiff
          have hcap : cap' ≤ 131072 := by omega
          clear hwhy hA' hu10 hu11 hs11 hn10 hB11 hN11 hu11' huv hiff lt old hwM U9 S9 B9 N9 FN9 ORD
          go_wp2_with fail
          refine (check S R A' B F M cap' (j + 1) 1 1 j u c c2 c1 a2 a1 _ true err (!err) lb _ _ s f _ hn hu hc S11.out N11.out B11.out H2.out.cells H1.out.cells HFN.out IFF.out).mono ?_
          rintro e w12 ⟨rfl, hu12⟩
          have T12 := Lib.hid (T11.out.trans hu12)
          have S12 := Lib.hid (S11.out.new hu12)
          clear hu12 T11 S11 B11 N11 H1 H2
          have s4 := S12.out.st.at (o := 4) rfl
          go_wp2_with fail
          refine (zz_string S R A' B F cap' (j + 1) 1 1 j _ _ true err _ _ fm _ (by omega) hcap (by show (if j = j then sv fm else vals s j j) = _; rw [if_pos rfl]) S12.out).mono ?_
          rintro e w' ⟨rfl, rfl⟩
          go_wp2_with fail
          refine (zz_top S R A' B F cap' (j + 1) 1 1 _ _ true err _ _ _ S12.out).mono ?_
          rintro e w' ⟨rfl, rfl⟩
          go_wp2
          go_ret
          exact ⟨rfl, T12.out.below (Nat.le_refl _) (fun _ h => h.elim)⟩

set_option maxHeartbeats 1600000 in
theorem shut_long (aR aI : Option Addr) (n cR u cI : Nat) (lb : Int) (err : Bool) (fm : ByteArray) (s : Nat → ByteArray) (w : World) (h0 : n ≤ 9223372036854775807) (h1 : u ≤ 9223372036854775807) (hl : ¬ (n ≤ 4096 ∧ u ≤ 4096)) (hR : Cells w aR n fun j => .string (s j)) :
    Calls Tryz.prog 5 #[.slice aR n cR, .slice aI u cI, .int .i64 lb, .bool err, .string fm] w (Good w) := by
  have HR := Lib.hid hR
  clear hR
  go_enter Tryz.func5, Tryz.ntmps5
  go_wp2_with fail
  refine (guard_shut aR aI n cR u cI lb err fm s _ h0 h1 HR.out).mono ?_
  rintro e w' ⟨b, rfl, rfl, hs⟩
  clear hs
  cases b with
  | false =>
    go_wp2
    go_ret
    exact ⟨rfl, Below.refl _ _⟩
  | true =>
    by_cases l0 : n ≤ 4096
    case neg =>
      go_wp2
      all_goals
        go_ret
        exact ⟨rfl, Below.refl _ _⟩
    have l1 : ¬ u ≤ 4096 := fun h => hl ⟨l0, h⟩
    clear hl
    go_wp2
    all_goals
      go_ret
      exact ⟨rfl, Below.refl _ _⟩
end Go.Proofs.YtkoiadebacdklaaGreatFmt
