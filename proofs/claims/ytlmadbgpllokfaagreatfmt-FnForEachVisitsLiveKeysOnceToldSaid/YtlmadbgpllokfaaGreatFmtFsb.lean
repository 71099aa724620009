/- Scripts over strings: small functions walked; what a script leaves. -/
import Derived.Test.YtlmadbgpllokfaaGreatFmtFsa
import Derived.Test.YtlmadbgpllokfaaGreatFmtLwb
import Derived.Test.YtlmadbgpllokfaaGreatFmtClonC
namespace Go.Proofs.YtlmadbgpllokfaaGreatFmt
open Go.RowKit Go.Mapy Go.Tbl
set_option maxRecDepth 100000

def vv (val : Nat → Nat) (del : Nat → Bool) (m : Nat) : Value := if del m then nilw else numv (val m)
theorem vv_val (val : Nat → Nat) (del : Nat → Bool) (m : Nat) : Val (vv val del m) (del m) := by
  unfold vv
  cases del m
  · exact .inr ⟨rfl, _, _, rfl, by decide, rfl⟩
  · exact .inl ⟨rfl, rfl⟩
theorem vv_nv (val : Nat → Nat) (del : Nat → Bool) (m : Nat) : NV (vv val del m) := by
  unfold vv
  cases del m
  · exact .inr ⟨_, rfl⟩
  · exact .inl rfl

theorem list_beq (a b : ByteArray) : (a.toList == b.toList) = (a == b) := by
  cases h : (a == b)
  · cases h2 : (a.toList == b.toList)
    · rfl
    · rw [beq_iff_eq, ByteArray.toList_eq, ByteArray.toList_eq] at h2
      rw [(ba_beq a b).2 (ByteArray.ext (Array.toList_inj.mp h2))] at h
      cases h
  · rw [(ba_beq a b).1 h]
    simp
theorem keq_comm (a b : Key) : keq a b = keq b a := by
  cases h : keq a b
  · cases h2 : keq b a
    · rfl
    · rw [keq_symm h2] at h; cases h
  · rw [keq_symm h]
/-- As the program compares two texts. -/
def seqk (q k : ByteArray) : Bool := k.toList == q.toList
theorem keq_str (q k : ByteArray) : keq (.str q) (.str k) = seqk q k := by
  rw [keq_comm]
  exact (list_beq k q).symm

/-- The place of the last of the first n keys that equals q; -1 if there is none. -/
def lk {K : Type} (eqk : K → K → Bool) (ks : Nat → K) (q : K) (n : Nat) : Int := match Last.last eqk ks q n with
  | some j => (j : Int)
  | none => -1
theorem lk_yes {K : Type} {eqk : K → K → Bool} {ks : Nat → K} {q : K} {n : Nat} (h : eqk q (ks n) = true) : lk eqk ks q (n + 1) = (n : Int) := by
  unfold lk
  rw [Last.last, if_pos h]
theorem lk_no {K : Type} {eqk : K → K → Bool} {ks : Nat → K} {q : K} {n : Nat} (h : eqk q (ks n) = false) : lk eqk ks q (n + 1) = lk eqk ks q n := by
  unfold lk
  rw [Last.last, if_neg (by rw [h]; simp)]

set_option maxHeartbeats 800000 in
theorem last_str (a : Option Addr) (K c n : Nat) (key : Nat → ByteArray) (p : ByteArray) (w : World) (hn : n ≤ K) (hK : K ≤ 4096) (hc : Cells w a K fun j => .string (key j)) :
    Calls Tryz.prog 33 #[.slice a K c, .int .i64 n, .string p] w fun e w' => e = .returned (.int .i64 (lk seqk key p n)) ∧ w = w' := by
  have HC := Lib.hid hc
  clear hc
  go_enter Tryz.func33, Tryz.ntmps33
  go_wp2
  go_loop [7, 8] (fun jv iv => ∃ m : Nat, m ≤ n ∧ iv = .int .i64 m ∧ jv = .int .i64 (lk seqk key p m)) (fun _ iv => n - (intOf iv).toNat)
  case atStart => exact ⟨0, Nat.zero_le _, rfl, rfl⟩
  case round =>
    obtain ⟨m, hm, rfl, rfl⟩ := hrel
    by_cases hlt : m < n
    · obtain ⟨b, off, rfl, hcell⟩ := HC.out.one (j := m) (by omega)
      have i1 : (0 : Int) ≤ (m : Int) := by omega
      have i2 : (m : Int) < (K : Int) := by omega
      cases hk : ((key m).toList == p.toList) with
      | true =>
        have LI := Lib.hid (lk_yes (eqk := seqk) (ks := key) (q := p) (n := m) hk)
        go_wp2
        go_round
        case rel => exact ⟨m + 1, by omega, by go_num, by rw [LI.out]⟩
        case measure => simp [intOf]; omega
      | false =>
        have LI := Lib.hid (lk_no (eqk := seqk) (ks := key) (q := p) (n := m) hk)
        go_wp2
        go_round
        case rel => exact ⟨m + 1, by omega, by go_num, by rw [LI.out]⟩
        case measure => simp [intOf]; omega
    · obtain rfl : m = n := by omega
      go_wp2
      go_ret
      exact ⟨rfl, rfl⟩

set_option maxHeartbeats 800000 in
theorem str_bytes (a : Option Addr) (K c : Nat) (key : Nat → ByteArray) (w : World) (hK : K ≤ 4096) (hc : Cells w a K fun j => .string (key j)) :
    Calls Tryz.prog 25 #[.slice a K c] w fun e w' => ∃ z : Nat, z ≤ 1048577 ∧ e = .returned (.int .i64 z) ∧ w = w' := by
  have HC := Lib.hid hc
  clear hc
  go_enter Tryz.func25, Tryz.ntmps25
  go_wp2
  go_loop [3, 4] (fun tv iv => ∃ m z : Nat, m ≤ K ∧ z ≤ 1048576 ∧ iv = .int .i64 m ∧ tv = .int .i64 z) (fun _ iv => K - (intOf iv).toNat)
  case atStart => exact ⟨0, 16 * K, Nat.zero_le _, by omega, rfl, by go_num⟩
  case round =>
    obtain ⟨m, z, hm, hz, rfl, rfl⟩ := hrel
    by_cases hlt : m < K
    · obtain ⟨b, off, rfl, hcell⟩ := HC.out.one (j := m) (by omega)
      have i1 : (0 : Int) ≤ (m : Int) := by omega
      have i2 : (m : Int) < (K : Int) := by omega
      by_cases hk : (key m).size ≤ 1048576
      case neg =>
        go_wp2
        go_ret
        exact ⟨1048577, by omega, rfl, rfl⟩
      by_cases hs : z + (key m).size ≤ 1048576
      case neg =>
        go_wp2
        go_ret
        exact ⟨1048577, by omega, rfl, rfl⟩
      go_wp2
      go_round
      case rel => exact ⟨m + 1, z + (key m).size, by omega, hs, by go_num, by go_num⟩
      case measure => simp [intOf]; omega
    · obtain rfl : m = K := by omega
      go_wp2
      go_ret
      exact ⟨z, by omega, rfl, rfl⟩

/-- What a script of stores leaves. -/
def RanK (ks : Nat → Key) (vs : Nat → Value) (j : Nat) (S : St) : Prop := ∀ q, holds S q = Last.run keq (fun _ => nilw) ks vs j q
theorem ranK_zero (ks : Nat → Key) (vs : Nat → Value) : RanK ks vs 0 ⟨[], [], []⟩ := fun q => look_empty _ _ _ q
theorem RanK.next {ks : Nat → Key} {vs : Nat → Value} {j : Nat} {S S' : St} (h : RanK ks vs j S) (hs : ∀ q, holds S' q = if keq q (ks j) then vs j else holds S q) : RanK ks vs (j + 1) S' := fun q => by
  rw [hs, h q]
  rfl
theorem RanK.nv {ks : Nat → Key} {vs : Nat → Value} {j : Nat} {S : St} (h : RanK ks vs j S) (hv : ∀ m, NV (vs m)) (q : Key) : NV (holds S q) := by
  rw [h, Last.run_last]
  cases Last.last keq ks q j
  · exact .inl rfl
  · exact hv _
theorem RanK.str {key : Nat → ByteArray} {vs : Nat → Value} {n : Nat} {S : St} (h : RanK (fun m => .str (key m)) vs n S) (p : ByteArray) : holds S (.str p) = match Last.last seqk key p n with | some j => vs j | none => nilw := by
  have e : Last.last keq (fun m => .str (key m)) (.str p) n = Last.last seqk key p n := Last.last_congr keq (fun i _ => keq_str p (key i))
  rw [h, Last.run_last, e]
  cases Last.last seqk key p n <;> rfl
end Go.Proofs.YtlmadbgpllokfaaGreatFmt
