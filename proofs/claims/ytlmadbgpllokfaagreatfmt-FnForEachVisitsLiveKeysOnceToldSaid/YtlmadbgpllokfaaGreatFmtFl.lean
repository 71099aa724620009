/-
  Plain facts on binary64 words: each finite word is a whole number of units of 2^-1074; order, conversion from small integers, conversion to integers.
-/
import Derived.Laws.FloatArith
namespace Go.Fl
open Ieee

/-- Units in one. -/
def sc : Int := 2 ^ 1074
theorem pow_cast (k : Nat) : ((2 ^ k : Nat) : Int) = 2 ^ k := Int.natCast_pow 2 k
theorem sc_cast : ((2 ^ 1074 : Nat) : Int) = sc := pow_cast 1074
theorem sc_pos : 0 < sc := Int.pow_pos (by decide)

/-- A finite datum in units of 2^-1074. -/
def U : Datum → Int
  | .number s m e => signed s m (e + 1074).toNat
  | _ => 0

theorem shl_eq (m k : Nat) : m <<< k = m * 2 ^ k := Nat.shiftLeft_eq m k

theorem signed_add (s : Bool) (m k j : Nat) : signed s m (k + j) = signed s m k * (2 ^ j : Nat) := by
  unfold signed
  rw [shl_eq, shl_eq, Nat.pow_add, ← Nat.mul_assoc]
  cases s <;> simp [Int.neg_mul]

theorem cmp_eq (a b : Int) : compare a b = if a < b then Ordering.lt else if a = b then Ordering.eq else Ordering.gt := rfl

theorem cmp_scale (a b : Int) {c : Int} (hc : 0 < c) : compare (a * c) (b * c) = compare a b := by
  rw [cmp_eq, cmp_eq]
  have h1 : (a * c < b * c) ↔ a < b := Int.mul_lt_mul_right hc
  have h2 : (a * c = b * c) ↔ a = b := ⟨fun h => Int.eq_of_mul_eq_mul_right (by omega) h, fun h => by rw [h]⟩
  simp only [h1, h2]

theorem order_num {s t : Bool} {m n : Nat} {i j : Int} (hi : -1074 ≤ i) (hj : -1074 ≤ j) :
    (Datum.number s m i).order (.number t n j) = some (compare (U (.number s m i)) (U (.number t n j))) := by
  show some (compare (signed s m (i - min i j).toNat) (signed t n (j - min i j).toNat)) = _
  have e1 : (i + 1074).toNat = (i - min i j).toNat + (min i j + 1074).toNat := by omega
  have e2 : (j + 1074).toNat = (j - min i j).toNat + (min i j + 1074).toNat := by omega
  show _ = some (compare (signed s m (i + 1074).toNat) (signed t n (j + 1074).toNat))
  rw [e1, e2, signed_add, signed_add, cmp_scale _ _ (by have := Nat.two_pow_pos (min i j + 1074).toNat; omega)]

theorem least : double.leastPlace = -1074 := by decide

theorem read_place {b : Nat} {s : Bool} {m : Nat} {e : Int} (h : double.read b = .number s m e) : -1074 ≤ e := by
  unfold Format.read at h
  simp only [least] at h
  split at h
  · cases h; omega
  · split at h
    · cases h; omega
    · split at h <;> cases h

theorem order_fin {a b : Nat} {s t : Bool} {m n : Nat} {i j : Int} (ha : double.read a = .number s m i) (hb : double.read b = .number t n j) :
    double.order a b = some (compare (U (double.read a)) (U (double.read b))) := by
  unfold Format.order
  rw [ha, hb]
  exact order_num (read_place ha) (read_place hb)

/-! ### small integers -/

theorem bin : double.binade = 4503599627370496 := by decide
theorem infr : double.infRung = 2047 * 4503599627370496 := by decide
theorem sw : double.signWeight = 2048 * 4503599627370496 := by decide

theorem read_word (neg : Bool) (rung : Nat) (h1 : 4503599627370496 ≤ rung) (h2 : rung < 2047 * 4503599627370496) :
    double.read (double.word neg rung) = .number neg (4503599627370496 + rung % 4503599627370496) (-1074 + (rung / 4503599627370496 - 1 : Nat)) := by
  have e1 : double.word neg rung % double.signWeight = rung := by
    unfold Format.word; rw [sw]; cases neg <;> simp <;> omega
  have e2 : (double.word neg rung / double.signWeight % 2 == 1) = neg := by
    unfold Format.word; rw [sw]
    cases neg
    · rw [show (if false = true then 2048 * 4503599627370496 + rung else rung) = rung from rfl, Nat.div_eq_of_lt (by omega)]; rfl
    · rw [show (if true = true then 2048 * 4503599627370496 + rung else rung) = 2048 * 4503599627370496 + rung from rfl, Nat.add_div_left _ (by decide), Nat.div_eq_of_lt (by omega)]; rfl
  unfold Format.read
  rw [e1]
  simp only [e2, bin, infr, least]
  rw [if_neg (by omega), if_pos h2]

theorem read_zero (neg : Bool) : double.read (double.word neg 0) = .number neg 0 (-1074) := by
  cases neg <;> decide

theorem cut_zero_drop (way : Toward) (neg : Bool) (n : Nat) : way.cut neg n 0 = n := by
  unfold Toward.cut
  have e : (1 <<< min 0 (n.log2 + 2)) = 1 := by simp
  simp only [e, Nat.div_one, Nat.mod_one]
  cases way <;> simp

/-- The word nearest to a small integer is that integer. -/
theorem nearest_small (neg : Bool) (mag : Nat) (h : mag ≤ 9007199254740992) :
    ∃ m e, double.read (double.nearest neg mag 0) = .number neg m e ∧ signed neg m (e + 1074).toNat = signed neg mag 1074 := by
  by_cases h0 : mag = 0
  · subst h0
    refine ⟨0, -1074, ?_, ?_⟩
    · rw [show double.nearest neg 0 0 = double.word neg 0 from rfl, read_zero]
    · unfold signed; simp
  by_cases hb : mag = 9007199254740992
  · subst hb
    refine ⟨4503599627370496, 1, ?_, ?_⟩
    · cases neg <;> decide +kernel
    · rw [show (((1 : Int) + 1074).toNat) = 1074 + 1 from rfl, signed_add]
      rw [show (9007199254740992 : Nat) = 4503599627370496 * 2 from rfl]
      unfold signed
      rw [shl_eq, shl_eq]
      generalize (2 : Nat) ^ 1074 = P
      cases neg <;> simp <;> omega
  have hl1 : 2 ^ mag.log2 ≤ mag := Nat.log2_self_le h0
  have hl2 : mag < 2 ^ (mag.log2 + 1) := Nat.lt_log2_self
  have hL : mag.log2 ≤ 52 := by
    rcases Nat.lt_or_ge 52 mag.log2 with h' | h'
    · have : 2 ^ 53 ≤ 2 ^ mag.log2 := Nat.pow_le_pow_right (by decide) h'
      omega
    · exact h'
  generalize hLg : mag.log2 = L at *
  have el : max ((0 : Int) + (L : Int) - ((52 : Nat) : Int)) (-1074) = (L : Int) - 52 := by omega
  have e3 : ((0 : Int) - ((L : Int) - 52)).toNat = 52 - L := by omega
  have e4 : (((L : Int) - 52) - 0).toNat = 0 := by omega
  have e5 : (((L : Int) - 52) - (-1074)).toNat = L + 1022 := by omega
  have k1 : 4503599627370496 ≤ mag * 2 ^ (52 - L) := by
    have : 2 ^ L * 2 ^ (52 - L) ≤ mag * 2 ^ (52 - L) := Nat.mul_le_mul_right _ hl1
    rw [← Nat.pow_add, show L + (52 - L) = 52 by omega] at this
    exact this
  have k2 : mag * 2 ^ (52 - L) < 2 * 4503599627370496 := by
    have : mag * 2 ^ (52 - L) < 2 ^ (L + 1) * 2 ^ (52 - L) := (Nat.mul_lt_mul_right (Nat.two_pow_pos _)).2 hl2
    rw [← Nat.pow_add, show L + 1 + (52 - L) = 53 by omega] at this
    exact this
  have en : double.nearest neg mag 0 = double.word neg ((L + 1022) * 4503599627370496 + mag * 2 ^ (52 - L)) := by
    unfold Format.nearest
    rw [if_neg h0, hLg]
    simp only [least, bin, infr, show double.fractionBits = 52 from rfl]
    rw [el, e3, e4, e5, cut_zero_drop, shl_eq, Nat.min_eq_left (by omega)]
  generalize hK : mag * 2 ^ (52 - L) = K at *
  refine ⟨K, (L : Int) - 52, ?_, ?_⟩
  · rw [en, read_word _ _ (by omega) (by omega)]
    have m1 : ((L + 1022) * 4503599627370496 + K) % 4503599627370496 = K - 4503599627370496 := by omega
    have m2 : ((L + 1022) * 4503599627370496 + K) / 4503599627370496 = L + 1023 := by omega
    rw [m1, m2, show 4503599627370496 + (K - 4503599627370496) = K by omega, show (-1074 + ((L + 1023 - 1 : Nat) : Int)) = (L : Int) - 52 by omega]
  · rw [show ((L : Int) - 52 + 1074).toNat = L + 1022 by omega]
    unfold signed
    rw [shl_eq, shl_eq, ← hK, Nat.mul_assoc, ← Nat.pow_add, show 52 - L + (L + 1022) = 1074 by omega]

/-- float64(n) of a small n. -/
theorem of_int (n : Int) (h : n.natAbs ≤ 9007199254740992) : ∃ s m e, double.read (FloatKind.f64.nearest n) = .number s m e ∧ U (double.read (FloatKind.f64.nearest n)) = n * sc := by
  obtain ⟨m, e, h1, h2⟩ := nearest_small (n < 0) n.natAbs h
  have hr : double.read (FloatKind.f64.nearest n) = .number (n < 0) m e := h1
  refine ⟨_, m, e, hr, ?_⟩
  rw [hr]
  show signed _ m (e + 1074).toNat = _
  rw [h2]
  unfold signed sc
  rw [shl_eq]
  by_cases hn : n < 0
  · simp only [hn, decide_true, if_true]
    rw [Int.natCast_mul, Int.ofNat_natAbs_of_nonpos (by omega), Int.neg_mul, Int.neg_neg, sc_cast, sc]
  · simp only [hn, decide_false, Bool.false_eq_true, if_false]
    rw [Int.natCast_mul, Int.natAbs_of_nonneg (by omega), sc_cast, sc]

/-! ### to integers -/
theorem cut_zero (neg : Bool) (n drop : Nat) : Toward.zero.cut neg n drop = n / 2 ^ drop := by
  unfold Toward.cut
  simp only [Bool.toNat_false, Nat.add_zero]
  rw [shl_eq, Nat.one_mul]
  by_cases h : drop ≤ n.log2 + 2
  · rw [Nat.min_eq_left h]
  · rw [Nat.min_eq_right (by omega)]
    have h1 : n < 2 ^ (n.log2 + 1) := Nat.lt_log2_self
    have h2 : 2 ^ (n.log2 + 1) ≤ 2 ^ (n.log2 + 2) := Nat.pow_le_pow_right (by decide) (by omega)
    have h3 : 2 ^ (n.log2 + 2) ≤ 2 ^ drop := Nat.pow_le_pow_right (by decide) (by omega)
    rw [Nat.div_eq_of_lt (by omega), Nat.div_eq_of_lt (by omega)]

theorem toInt_num (s : Bool) (m : Nat) (e : Int) : (Datum.number s m e).toInt .zero = some (signed s (m * 2 ^ e.toNat / 2 ^ (-e).toNat) 0) := by
  show some (signed s (Toward.zero.cut s (m <<< e.toNat) (-e).toNat) 0) = _
  rw [cut_zero, shl_eq]

end Go.Fl
