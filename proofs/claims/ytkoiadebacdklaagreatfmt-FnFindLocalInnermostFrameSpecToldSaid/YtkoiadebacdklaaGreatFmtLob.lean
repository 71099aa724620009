/- The law's model of the innermost frame: walked. -/
import Derived.Test.YtkoiadebacdklaaGreatFmtLoa
import Derived.Test.YtkoiadebacdklaaGreatFmtUvj
namespace Go.Proofs.YtkoiadebacdklaaGreatFmt
open Go.RowKit
set_option maxRecDepth 100000

theorem mkRoomStr (k : Nat) (hk : k ≤ 1048576) (w : World) : (Instr.makeSlice 22 (.int .i64 0) (.int .i64 (k : Int))).run Tryz.prog w = .ok (.slice (some ⟨w.heap.size, 0, none⟩) 0 k) (w.alloc (.cells (tab k fun _ => Value.string ByteArray.empty).toArray 9)) := by
  have h := run_made0 (P := Tryz.prog) 22 9 (Value.string ByteArray.empty) 16 Tryz.underlying22 (by kernel_rfl) (by decide) k (by omega) (by omega) w
  have e : (List.replicate k (Value.string ByteArray.empty).cells.toList).flatten = tab k fun _ => Value.string ByteArray.empty := by
    rw [← tab_rep]
    show (List.replicate k [Value.string ByteArray.empty]).flatten = _
    rw [List.flatten_replicate_singleton]
  rw [e] at h
  exact h

theorem infoStr : (Tryz.prog.info? 9).map (fun i => (i.zero, i.size, i.bytes)) = some (some (Value.string ByteArray.empty), 1, 16) := by kernel_rfl

/-- The names of the live ones among the first j. -/
def acts (p : Nat → Bool) (x : Nat → ByteArray) : Nat → List Value
  | 0 => []
  | j + 1 => acts p x j ++ (if p j then [.string (x j)] else [])
theorem acts_length (p : Nat → Bool) (x : Nat → ByteArray) : ∀ j, (acts p x j).length = Cnt.cnt p j
  | 0 => rfl
  | j + 1 => by
    rw [acts, List.length_append, acts_length p x j, Cnt.cnt_succ]
    split <;> rfl
theorem acts_at (p : Nat → Bool) (x : Nat → ByteArray) (i : Nat) (hp : p i = true) : ∀ j, i < j → (acts p x j)[Cnt.cnt p i]? = some (.string (x i))
  | 0, h => by omega
  | j + 1, h => by
    rw [acts]
    by_cases e : i = j
    · subst e
      rw [if_pos hp, List.getElem?_append_right (by rw [acts_length]; exact Nat.le_refl _), acts_length, Nat.sub_self]
      rfl
    · have h1 := acts_at p x i hp j (by omega)
      have h2 : Cnt.cnt p i < (acts p x j).length := by
        by_cases e2 : Cnt.cnt p i < (acts p x j).length
        · exact e2
        · rw [List.getElem?_eq_none (by omega)] at h1; cases h1
      rw [List.getElem?_append_left h2]
      exact h1

def tmpName : ByteArray := ⟨#[40, 42, 116, 101, 109, 112, 111, 114, 97, 114, 121, 41]⟩

/-- What the innermost frame's local is called. -/
def Inner (L : Nat) (x : Nat → ByteArray) (en : Nat → Int) (no pc d : Int) (g : Bool) (s : ByteArray) : Prop :=
  (g = false ∧ ∃ i, i < L ∧ pc < en i ∧ (Cnt.cnt (live en pc) i : Int) + 1 = no ∧ s = x i) ∨ ((g = true ∨ ¬ (1 ≤ no ∧ no ≤ Cnt.cnt (live en pc) L)) ∧ s = if no ≤ d then tmpName else ByteArray.empty)

def IsInner (L : Nat) (x : Nat → ByteArray) (en : Nat → Int) (no pc d : Int) (g : Bool) (w : World) (e : Ending) (w' : World) : Prop := ∃ s, e = .returned (.string s) ∧ Inner L x en no pc d g s ∧ Upd (fun _ => False) w w'

theorem Inner.same {L : Nat} {x : Nat → ByteArray} {en : Nat → Int} {no pc d : Int} {g : Bool} {s t : ByteArray} (h : Inner L x en no pc d g s) (k : Inner L x en no pc d g t) : s = t := by
  have key : ∀ i j, pc < en i → pc < en j → (Cnt.cnt (live en pc) i : Int) + 1 = no → (Cnt.cnt (live en pc) j : Int) + 1 = no → i = j := fun i j h1 h2 h3 h4 =>
    Cnt.cnt_uniq (p := live en pc) (decide_eq_true h1) (decide_eq_true h2) (by omega)
  have cross : ∀ i, i < L → pc < en i → (Cnt.cnt (live en pc) i : Int) + 1 = no → 1 ≤ no ∧ no ≤ Cnt.cnt (live en pc) L := fun i h1 h2 h3 => by
    have h4 := Cnt.cnt_mono (live en pc) (show i + 1 ≤ L from h1)
    rw [Cnt.cnt_succ, if_pos (show live en pc i = true from decide_eq_true h2)] at h4
    omega
  rcases h with ⟨h0, i, h1, h2, h3, rfl⟩ | ⟨h0, rfl⟩
  · rcases k with ⟨k0, j, k1, k2, k3, rfl⟩ | ⟨k0, rfl⟩
    · rw [key i j h2 k2 h3 k3]
    · rcases k0 with k0 | k0
      · rw [h0] at k0; cases k0
      · exact absurd (cross i h1 h2 h3) k0
  · rcases k with ⟨k0, j, k1, k2, k3, rfl⟩ | ⟨k0, rfl⟩
    · rcases h0 with h0 | h0
      · rw [k0] at h0; cases h0
      · exact absurd (cross j k1 k2 k3) h0
    · rfl

theorem owns_list {wr : World} {B : Nat} {e : TypeId} {v : Value} {n : Nat} {xs : List Value} (hown : wr.ownsRow B e 1 v n xs) : ∃ a c, v = .slice a n c ∧ ∀ j u, xs[j]? = some u → ∃ b, a = some ⟨b, 0, none⟩ ∧ wr.cell? ⟨b, j, none⟩ = some u := by
  rcases hown.2 with ⟨rfl, rfl⟩ | ⟨g, cap, cur, rfl, hb, _⟩
  · refine ⟨none, 0, rfl, fun j u h => ?_⟩
    have h1 := hown.1
    have : xs = [] := List.eq_nil_of_length_eq_zero (by simpa using h1)
    subst this
    simp at h
  · exact ⟨_, _, rfl, fun j u h => ⟨g, rfl, by have := hown.cells (g := g) rfl j _ h; rw [Addr.add_mid, Nat.zero_add] at this; exact this⟩⟩

set_option maxHeartbeats 1600000 in
theorem tail_of (L : Nat) (x : Nat → ByteArray) (en : Nat → Int) (no pc d : Int) (g : Bool) (h : g = true ∨ ¬ (1 ≤ no ∧ no ≤ Cnt.cnt (live en pc) L)) : (no ≤ d → Inner L x en no pc d g tmpName) ∧ (¬ no ≤ d → Inner L x en no pc d g ByteArray.empty) :=
  ⟨fun hd => .inr ⟨h, (if_pos hd).symm⟩, fun hd => .inr ⟨h, (if_neg hd).symm⟩⟩

set_option maxHeartbeats 3200000 in
theorem model (aN aS aE : Option Addr) (n cN cS cE L : Nat) (x : Nat → ByteArray) (st en : Nat → Int) (p0 pc lb top no : Int) (g : Bool) (w : World) (hn : n ≤ 4096) (h1 : -9223372036854775808 ≤ no) (h2 : no ≤ 9223372036854775807) (hlb : 0 ≤ lb ∧ lb ≤ top ∧ top ≤ 65536)
    (hpc : IntKind.i64.wrap (p0 - 1) = pc) (hl : Lim n L st pc)
    (hN : Cells w aN n fun j => .string (x j)) (hS : Cells w aS n fun j => .int .i64 (st j)) (hE : Cells w aE n fun j => .int .i64 (en j)) :
    Calls Tryz.prog 25 #[.slice aN n cN, .slice aS n cS, .slice aE n cE, .int .i64 p0, .int .i64 lb, .int .i64 top, .int .i64 no, .bool g] w (IsInner L x en no pc (top - lb) g w) := by
  have HN := Lib.hid hN
  have HS := Lib.hid hS
  have HE := Lib.hid hE
  have HL := Lib.hid hl
  clear hN hS hE hl
  have hd : ∀ z, (z = true ∨ True) := fun z => .inr trivial
  clear hd
  by_cases hg : g = true ∨ no < 1
  · have hT := tail_of L x en no pc (top - lb) g (hg.imp id (fun h h' => by omega))
    have HT := Lib.hid hT
    clear hT
    by_cases hd : no ≤ top - lb
    · have HI := Lib.hid (HT.out.1 hd)
      cases g with
      | true =>
        clear hg
        go_enter Tryz.func25, Tryz.ntmps25
        go_wp2
        go_ret
        exact ⟨_, rfl, HI.out, Upd.refl _ _⟩
      | false =>
        have hno : no < 1 := by rcases hg with h | h; · cases h
                                · exact h
        clear hg
        go_enter Tryz.func25, Tryz.ntmps25
        go_wp2
        go_ret
        exact ⟨_, rfl, HI.out, Upd.refl _ _⟩
    · have HI := Lib.hid (HT.out.2 hd)
      cases g with
      | true =>
        clear hg
        go_enter Tryz.func25, Tryz.ntmps25
        go_wp2
        go_ret
        exact ⟨_, rfl, HI.out, Upd.refl _ _⟩
      | false =>
        have hno : no < 1 := by rcases hg with h | h; · cases h
                                · exact h
        exfalso
        omega
  · obtain rfl : g = false := by cases g with | true => exact absurd (.inl rfl) hg | false => rfl
    have hno : 1 ≤ no := by
      by_cases h : no < 1
      · exact absurd (.inr h) hg
      · omega
    clear hg
    obtain ⟨i0, hi, hz0, hz1, hz2⟩ := info_parts infoStr
    go_enter Tryz.func25, Tryz.ntmps25
    go_wp2_with fail
    go_loop [18] (fun i => ∃ j : Nat, j ≤ n ∧ i = .int .i64 j ∧ ∀ m, m < j → st m < pc) (fun i => n - (intOf i).toNat)
    case atStart => exact ⟨0, Nat.zero_le _, rfl, fun m h => absurd h (by omega)⟩
    case round =>
      obtain ⟨j, hj, rfl, hs⟩ := hrel
      have HSS := Lib.hid hs
      clear hs
      by_cases hgo : j < n ∧ st j < pc
      · obtain ⟨hlt, hsj⟩ := hgo
        obtain ⟨b, off, rfl, hc⟩ := HS.out.one hlt
        go_wp2
        go_round
        case rel =>
          refine ⟨j + 1, by omega, by go_num, fun m hm => ?_⟩
          by_cases e : m = j
          · subst e; exact hsj
          · exact HSS.out m (by omega)
        case measure => simp [intOf]; omega
      · have hjL := HL.out.stop hj HSS.out (fun h => by by_cases e : st j < pc; · exact absurd ⟨h, e⟩ hgo
                                                        · omega)
        subst hjL
        have hex : (j < n ∧ pc ≤ st j) ∨ j = n := by
          by_cases e : j < n
          · exact .inl ⟨e, by by_cases e2 : st j < pc; · exact absurd ⟨e, e2⟩ hgo
                              · omega⟩
          · exact .inr (by omega)
        clear hgo
        have hmk := mkRoomStr j (by omega)
        have OWN := Lib.hid (show (w.alloc (.cells (tab j fun _ => Value.string ByteArray.empty).toArray 9)).ownsRow w.heap.size 9 1 (.slice (some ⟨w.heap.size, 0, none⟩) 0 j) 0 (acts (live en pc) x 0) from
          ⟨rfl, .inr ⟨_, _, _, rfl, Nat.le_refl _, Blk.new w _ _, Nat.zero_le _, by unfold maxLen; omega, by simp [tab_length], rfl⟩⟩)
        have U1 := Lib.hid ((Upd.refl (fun _ => False) w).alloc (.cells (tab j fun _ => Value.string ByteArray.empty).toArray 9))
        have REST := Lib.hid (fun (h : ¬ no ≤ Cnt.cnt (live en pc) j) => tail_of j x en no pc (top - lb) false (.inr fun h' => h h'.2))
        have st1 : ∀ (b off : Nat), aS = some ⟨b, off, none⟩ → j < n → w.cell? ⟨b, off + j, none⟩ = some (.int .i64 (st j)) := fun b off e hlt => by
          obtain ⟨b', off', e', hc⟩ := HS.out.one hlt
          rw [e] at e'
          cases e'
          exact hc
        have ST1 := Lib.hid st1
        clear st1
        rcases hex with ⟨hlt, hsj⟩ | hjn
        · obtain ⟨b, off, rfl, hc⟩ := HS.out.one hlt
          go_wp2_with fail
          clear hc hlt hsj
          go_loopw [19, 20] (fun o i wr => ∃ (m : Nat) (v : Value), m ≤ j ∧ i = .int .i64 m ∧ o = v ∧ wr.ownsRow w.heap.size 9 1 v (Cnt.cnt (live en pc) m) (acts (live en pc) x m) ∧ Upd (fun _ => False) w wr) (fun _ i _ => j - (intOf i).toNat)
          case atStart => exact ⟨0, _, Nat.zero_le _, rfl, rfl, OWN.out, U1.out⟩
          case round =>
            obtain ⟨m, v, hm, rfl, rfl, hown, hu2⟩ := hrel
            have U2 := Lib.hid hu2
            have OWN2 := Lib.hid hown
            clear hu2 hown
            by_cases hlt : m < j
            · obtain ⟨b3, off3, rfl, hc3⟩ := (HE.out.upd U2.out).one (j := m) (by omega)
              have hcn := Cnt.cnt_le (live en pc) m
              have hsz := U2.out.size
              have hsu := Cnt.cnt_succ (live en pc) m
              by_cases hp : pc < en m
              · obtain ⟨b4, off4, rfl, hc4⟩ := (HN.out.upd U2.out).one (j := m) (by omega)
                rw [if_pos (show live en pc m = true from decide_eq_true hp)] at hsu
                have HSU := Lib.hid hsu
                clear hsu
                go_wp2_with (at_builtin; refine wpList_append_own_at _ rfl _ _ 22 rfl w.heap.size 9 i0 (.string ByteArray.empty) 1 16 Tryz.underlying22 hi hz0 hz1 hz2 rfl (by decide) _ _ _ rfl (OWN2.out.alloc _) ⟨_, 0, none⟩ 1 1 [.string (x m)] rfl rfl (cell_one_new _ _ _) (by intro u hu; simp at hu; subst hu; rfl) (by unfold maxLen; omega) (by omega) (by simp; omega) ?_; intro v' w1 hown' hgrow hnil hloc)
                have U3 := Lib.hid (Upd.grown (U2.out.alloc _) (OWN2.out.alloc _) hgrow)
                have e2 : acts (live en pc) x (m + 1) = acts (live en pc) x m ++ [.string (x m)] := by rw [acts, if_pos (show live en pc m = true from decide_eq_true hp)]
                rw [← e2, ← HSU.out] at hown'
                have OWN3 := Lib.hid hown'
                clear hown' hgrow hnil hloc e2
                go_roundw
                case rel => exact ⟨m + 1, _, by omega, by go_num, rfl, OWN3.out, U3.out⟩
                case measure => simp [intOf]; omega
              · rw [if_neg (show ¬ live en pc m = true by rw [show live en pc m = false from decide_eq_false hp]; decide)] at hsu
                have e2 : acts (live en pc) x (m + 1) = acts (live en pc) x m := by rw [acts, if_neg (show ¬ live en pc m = true by rw [show live en pc m = false from decide_eq_false hp]; decide), List.append_nil]
                have hsu2 : Cnt.cnt (live en pc) (m + 1) = Cnt.cnt (live en pc) m := by omega
                have h9 := OWN2.out
                rw [← hsu2, ← e2] at h9
                have HSU := Lib.hid h9
                clear hsu hsu2 e2 h9
                go_wp2
                go_roundw
                case rel => exact ⟨m + 1, _, by omega, by go_num, rfl, HSU.out, U2.out⟩
                case measure => simp [intOf]; omega
            · obtain rfl : m = j := by omega
              obtain ⟨a9, c9, hv, hls⟩ := owns_list OWN2.out
              subst hv
              have LS := Lib.hid hls
              clear hls
              have hcn := Cnt.cnt_le (live en pc) m
              by_cases hnl : no ≤ Cnt.cnt (live en pc) m
              · obtain ⟨q, rfl⟩ : ∃ q : Nat, no = (q : Int) + 1 := ⟨(no - 1).toNat, by omega⟩
                obtain ⟨i, hi1, hi2, hi3⟩ := Cnt.cnt_find (live en pc) q m (by omega)
                have hl9 := acts_at (live en pc) x i hi2 m hi1
                rw [hi3] at hl9
                obtain ⟨b9, rfl, hc9⟩ := LS.out q _ hl9
                have hw1 : IntKind.i64.wrap ((q : Int) + 1 - 1) = (q : Int) := by rw [IntWalk.i64_in _ (by omega)]; omega
                have IN := Lib.hid (show Inner m x en ((q : Int) + 1) pc (top - lb) false (x i) from .inl ⟨rfl, i, hi1, of_decide_eq_true hi2, by omega, rfl⟩)
                have qq1 : (0 : Int) ≤ (q : Int) := by omega
                have qq2 : (q : Int) < (Cnt.cnt (live en pc) m : Int) := by omega
                clear hl9 hi2 hi3 REST
                go_wp2
                go_ret
                exact ⟨_, rfl, IN.out, U2.out⟩
              · have RR := Lib.hid (REST.out (by omega))
                clear REST
                by_cases hd : no ≤ top - lb
                · have IN := Lib.hid (RR.out.1 hd)
                  go_wp2
                  go_ret
                  exact ⟨_, rfl, IN.out, U2.out⟩
                · have IN := Lib.hid (RR.out.2 (by omega))
                  go_wp2
                  go_ret
                  exact ⟨_, rfl, IN.out, U2.out⟩
        · subst hjn
          go_wp2_with fail
          go_loopw [19, 20] (fun o i wr => ∃ (m : Nat) (v : Value), m ≤ j ∧ i = .int .i64 m ∧ o = v ∧ wr.ownsRow w.heap.size 9 1 v (Cnt.cnt (live en pc) m) (acts (live en pc) x m) ∧ Upd (fun _ => False) w wr) (fun _ i _ => j - (intOf i).toNat)
          case atStart => exact ⟨0, _, Nat.zero_le _, rfl, rfl, OWN.out, U1.out⟩
          case round =>
            obtain ⟨m, v, hm, rfl, rfl, hown, hu2⟩ := hrel
            have U2 := Lib.hid hu2
            have OWN2 := Lib.hid hown
            clear hu2 hown
            by_cases hlt : m < j
            · obtain ⟨b3, off3, rfl, hc3⟩ := (HE.out.upd U2.out).one (j := m) (by omega)
              have hcn := Cnt.cnt_le (live en pc) m
              have hsz := U2.out.size
              have hsu := Cnt.cnt_succ (live en pc) m
              by_cases hp : pc < en m
              · obtain ⟨b4, off4, rfl, hc4⟩ := (HN.out.upd U2.out).one (j := m) (by omega)
                rw [if_pos (show live en pc m = true from decide_eq_true hp)] at hsu
                have HSU := Lib.hid hsu
                clear hsu
                go_wp2_with (at_builtin; refine wpList_append_own_at _ rfl _ _ 22 rfl w.heap.size 9 i0 (.string ByteArray.empty) 1 16 Tryz.underlying22 hi hz0 hz1 hz2 rfl (by decide) _ _ _ rfl (OWN2.out.alloc _) ⟨_, 0, none⟩ 1 1 [.string (x m)] rfl rfl (cell_one_new _ _ _) (by intro u hu; simp at hu; subst hu; rfl) (by unfold maxLen; omega) (by omega) (by simp; omega) ?_; intro v' w1 hown' hgrow hnil hloc)
                have U3 := Lib.hid (Upd.grown (U2.out.alloc _) (OWN2.out.alloc _) hgrow)
                have e2 : acts (live en pc) x (m + 1) = acts (live en pc) x m ++ [.string (x m)] := by rw [acts, if_pos (show live en pc m = true from decide_eq_true hp)]
                rw [← e2, ← HSU.out] at hown'
                have OWN3 := Lib.hid hown'
                clear hown' hgrow hnil hloc e2
                go_roundw
                case rel => exact ⟨m + 1, _, by omega, by go_num, rfl, OWN3.out, U3.out⟩
                case measure => simp [intOf]; omega
              · rw [if_neg (show ¬ live en pc m = true by rw [show live en pc m = false from decide_eq_false hp]; decide)] at hsu
                have e2 : acts (live en pc) x (m + 1) = acts (live en pc) x m := by rw [acts, if_neg (show ¬ live en pc m = true by rw [show live en pc m = false from decide_eq_false hp]; decide), List.append_nil]
                have hsu2 : Cnt.cnt (live en pc) (m + 1) = Cnt.cnt (live en pc) m := by omega
                have h9 := OWN2.out
                rw [← hsu2, ← e2] at h9
                have HSU := Lib.hid h9
                clear hsu hsu2 e2 h9
                go_wp2
                go_roundw
                case rel => exact ⟨m + 1, _, by omega, by go_num, rfl, HSU.out, U2.out⟩
                case measure => simp [intOf]; omega
            · obtain rfl : m = j := by omega
              obtain ⟨a9, c9, hv, hls⟩ := owns_list OWN2.out
              subst hv
              have LS := Lib.hid hls
              clear hls
              have hcn := Cnt.cnt_le (live en pc) m
              by_cases hnl : no ≤ Cnt.cnt (live en pc) m
              · obtain ⟨q, rfl⟩ : ∃ q : Nat, no = (q : Int) + 1 := ⟨(no - 1).toNat, by omega⟩
                obtain ⟨i, hi1, hi2, hi3⟩ := Cnt.cnt_find (live en pc) q m (by omega)
                have hl9 := acts_at (live en pc) x i hi2 m hi1
                rw [hi3] at hl9
                obtain ⟨b9, rfl, hc9⟩ := LS.out q _ hl9
                have hw1 : IntKind.i64.wrap ((q : Int) + 1 - 1) = (q : Int) := by rw [IntWalk.i64_in _ (by omega)]; omega
                have IN := Lib.hid (show Inner m x en ((q : Int) + 1) pc (top - lb) false (x i) from .inl ⟨rfl, i, hi1, of_decide_eq_true hi2, by omega, rfl⟩)
                have qq1 : (0 : Int) ≤ (q : Int) := by omega
                have qq2 : (q : Int) < (Cnt.cnt (live en pc) m : Int) := by omega
                clear hl9 hi2 hi3 REST
                go_wp2
                go_ret
                exact ⟨_, rfl, IN.out, U2.out⟩
              · have RR := Lib.hid (REST.out (by omega))
                clear REST
                by_cases hd : no ≤ top - lb
                · have IN := Lib.hid (RR.out.1 hd)
                  go_wp2
                  go_ret
                  exact ⟨_, rfl, IN.out, U2.out⟩
                · have IN := Lib.hid (RR.out.2 (by omega))
                  go_wp2
                  go_ret
                  exact ⟨_, rfl, IN.out, U2.out⟩
end Go.Proofs.YtkoiadebacdklaaGreatFmt
