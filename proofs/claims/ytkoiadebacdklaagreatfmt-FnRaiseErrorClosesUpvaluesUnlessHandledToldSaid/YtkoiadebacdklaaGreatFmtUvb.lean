/- Open upvalues: laid, read, closed: walked. -/
import Derived.Test.YtkoiadebacdklaaGreatFmtUva
import Derived.Test.YtkoiadebacdklaaGreatFmtClonU
namespace Go.Proofs.YtkoiadebacdklaaGreatFmt
open Go.RowKit
set_option maxRecDepth 100000

/-- An upvalue's cells. -/
def nd (nx : Option Addr) (R : Nat) (ix : Int) (v : Value) (cl : Bool) : List Value := [.pointer nx, .pointer (some ⟨R, 0, none⟩), .int .i64 ix, v, .bool cl]

set_option maxHeartbeats 400000 in
theorem uv_open (U R A cap top : Nat) (nx : Option Addr) (i : Nat) (v : Nat → Value) (w : World) (hi : i < cap) (hU : Blk w U (nd nx R i .nilIface false) 134) (hR : Blk w R (regs2 A cap top) 123) (hA : Blk w A (tab cap v) 101) :
    Calls Tryz.prog 112 #[.pointer (some ⟨U, 0, none⟩)] w fun e w' => e = .returned (v i) ∧ ∃ n, w' = w.drewN n := by
  have u1 := hU.at (o := 1) rfl
  have u2 := hU.at (o := 2) rfl
  have u4 := hU.at (o := 4) rfl
  have g0 := hR.at (o := 0) rfl
  have r := hA.at (tab_in hi)
  have i1 : (0 : Int) ≤ (i : Int) := by omega
  have i2 : (i : Int) < (cap : Int) := by omega
  clear hU hR hA
  go_enter Tryz.func112, Tryz.ntmps112
  go_wp2
  go_quiet (fail)
  go_wp2
  go_ret
  exact ⟨rfl, _, rfl⟩

set_option maxHeartbeats 400000 in
theorem uv_close (U R A cap top : Nat) (nx : Option Addr) (i : Nat) (s : ByteArray) (v : Nat → Value) (w : World) (hi : i < cap) (hs : v i = sv s) (hU : Blk w U (nd nx R i .nilIface false) 134) (hR : Blk w R (regs2 A cap top) 123) (hA : Blk w A (tab cap v) 101) :
    Calls Tryz.prog 97 #[.pointer (some ⟨U, 0, none⟩)] w fun e w' => e = .returned (.tuple #[]) ∧ Upd (fun c => c = U) w w' ∧ Blk w' U (nd nx R i (sv s) true) 134 := by
  have HU := Lib.hid hU
  have HR := Lib.hid hR
  have HA := Lib.hid hA
  have HS := Lib.hid hs
  clear hU hR hA hs
  go_enter Tryz.func97, Tryz.ntmps97
  go_wp2_with fail
  refine (uv_open U R A cap top nx i v _ hi HU.out HR.out HA.out).mono ?_
  rintro e w1 ⟨rfl, n, rfl⟩
  rw [HS.out]
  have hu : Blk (w.drewN n) U (nd nx R i .nilIface false) 134 := HU.out.drewN n
  have hup : Upd (fun c => c = U) w (w.drewN n) := (Upd.refl _ _).drewN n
  generalize w.drewN n = w1 at *
  have u4 := hu.at (o := 4) rfl
  have u3 := hu.at (o := 3) rfl
  have uf := hu.free 4
  have uf3 := hu.free 3
  have HU1 := Lib.hid hu
  have HP := Lib.hid hup
  unfold sv
  clear hu hup HU HR HA HS
  go_wp2
  go_end0
  exact ⟨rfl, (HP.out.setCell ⟨U, 4, none⟩ _ (.inl rfl)).setCell ⟨U, 3, none⟩ _ (.inl rfl), (HU1.out.set 4 _).set 3 _⟩

set_option maxHeartbeats 400000 in
theorem uv_head (S R B : Nat) (cur uv : Option Addr) (dead err : Bool) (w : World) (h : Blk w S (st2 R B cur uv dead err) 46) :
    Calls Tryz.prog 61 #[.pointer (some ⟨S, 0, none⟩)] w fun e w' => e = .returned (.pointer uv) ∧ w = w' := by
  have s := h.at (o := 18) rfl
  clear h
  go_enter Tryz.func61, Tryz.ntmps61
  go_wp2
  go_ret
  exact ⟨rfl, rfl⟩

set_option maxHeartbeats 400000 in
theorem uv_next (U R : Nat) (nx : Option Addr) (ix : Int) (v : Value) (cl : Bool) (w : World) (h : Blk w U (nd nx R ix v cl) 134) :
    Calls Tryz.prog 62 #[.pointer (some ⟨U, 0, none⟩)] w fun e w' => e = .returned (.pointer nx) ∧ w = w' := by
  have s := h.at (o := 0) rfl
  clear h
  go_enter Tryz.func62, Tryz.ntmps62
  go_wp2
  go_ret
  exact ⟨rfl, rfl⟩

set_option maxHeartbeats 400000 in
theorem uv_closed (U R : Nat) (nx : Option Addr) (ix : Int) (v : Value) (cl : Bool) (w : World) (h : Blk w U (nd nx R ix v cl) 134) :
    Calls Tryz.prog 36 #[.pointer (some ⟨U, 0, none⟩)] w fun e w' => e = .returned (.bool cl) ∧ w = w' := by
  have s := h.at (o := 4) rfl
  clear h
  go_enter Tryz.func36, Tryz.ntmps36
  go_wp2
  go_ret
  exact ⟨rfl, rfl⟩

set_option maxHeartbeats 400000 in
theorem uv_value_s (U R : Nat) (nx : Option Addr) (ix : Int) (s : ByteArray) (cl : Bool) (w : World) (h : Blk w U (nd nx R ix (sv s) cl) 134) :
    Calls Tryz.prog 37 #[.pointer (some ⟨U, 0, none⟩)] w fun e w' => e = .returned (.tuple #[.string s, .bool true]) ∧ w = w' := by
  have s3 := h.at (o := 3) rfl
  unfold sv at s3
  clear h
  go_enter Tryz.func37, Tryz.ntmps37
  go_wp2
  go_ret2
  exact ⟨rfl, rfl⟩

@[go_sem] theorem asNILI_STR (w : World) : (Instr.typeAssert .nilIface 101 110 true).run Tryz.prog w = .ok (.tuple #[.string ByteArray.empty, .bool false]) w := by kernel_rfl

set_option maxHeartbeats 400000 in
theorem uv_value_n (U R : Nat) (nx : Option Addr) (ix : Int) (cl : Bool) (w : World) (h : Blk w U (nd nx R ix .nilIface cl) 134) :
    Calls Tryz.prog 37 #[.pointer (some ⟨U, 0, none⟩)] w fun e w' => e = .returned (.tuple #[.string ByteArray.empty, .bool false]) ∧ w = w' := by
  have s3 := h.at (o := 3) rfl
  clear h
  go_enter Tryz.func37, Tryz.ntmps37
  go_wp2
  go_ret2
  exact ⟨rfl, rfl⟩

/-- The node at i, if it lies below c. -/
def nod (N i c : Nat) : Option Addr := if i < c then some ⟨N + i, 0, none⟩ else none
/-- The upvalues (u of them, from block N on; f: their indices; t: their registers' texts) where the first c are open and linked. -/
def Nds (w : World) (N R u c : Nat) (f : Nat → Nat) (t : Nat → ByteArray) : Prop :=
  ∀ i, i < u → Blk w (N + i) (nd (nod N (i + 1) c) R (f i) (if c ≤ i then sv (t i) else .nilIface) (decide (c ≤ i))) 134
/-- The same within the closing walk, p nodes behind it, those from c' on being closed. -/
def nxi (N i c c' p : Nat) : Option Addr := if i + 1 < c ∧ ¬ (c' ≤ i + 1 ∧ i + 1 < p) then some ⟨N + (i + 1), 0, none⟩ else none
def shut (i c c' p : Nat) : Bool := decide (c ≤ i ∨ (c' ≤ i ∧ i < p))
def NdI (w : World) (N R u c c' p : Nat) (f : Nat → Nat) (t : Nat → ByteArray) : Prop :=
  ∀ i, i < u → Blk w (N + i) (nd (nxi N i c c' p) R (f i) (if shut i c c' p then sv (t i) else .nilIface) (shut i c c' p)) 134

theorem NdI.start {w : World} {N R u c c' : Nat} {f : Nat → Nat} {t : Nat → ByteArray} (h : Nds w N R u c f t) : NdI w N R u c c' 0 f t := fun i hi => by
  have e : shut i c c' 0 = decide (c ≤ i) := by unfold shut; simp
  have e2 : nxi N i c c' 0 = nod N (i + 1) c := by
    unfold nxi nod
    by_cases h : i + 1 < c
    · rw [if_pos ⟨h, by omega⟩, if_pos h]
    · rw [if_neg (by omega), if_neg h]
  rw [e, e2]
  have := h i hi
  by_cases hc : c ≤ i
  · simpa [hc] using this
  · simpa [hc] using this

theorem NdI.stop {w : World} {N R u c c' : Nat} {f : Nat → Nat} {t : Nat → ByteArray} (hc : c' ≤ c) (h : NdI w N R u c c' c f t) : Nds w N R u c' f t := fun i hi => by
  have e : shut i c c' c = decide (c' ≤ i) := by
    unfold shut
    rw [decide_eq_decide]
    omega
  have e2 : nxi N i c c' c = nod N (i + 1) c' := by
    unfold nxi nod
    by_cases h : i + 1 < c'
    · rw [if_pos ⟨by omega, by omega⟩, if_pos h]
    · rw [if_neg (by omega), if_neg h]
  have := h i hi
  rw [e, e2] at this
  by_cases hc : c' ≤ i
  · simpa [hc] using this
  · simpa [hc] using this

theorem NdI.pass {w : World} {N R u c c' p : Nat} {f : Nat → Nat} {t : Nat → ByteArray} (hp : p < c') (h : NdI w N R u c c' p f t) : NdI w N R u c c' (p + 1) f t := fun i hi => by
  have e : shut i c c' (p + 1) = shut i c c' p := by
    unfold shut
    rw [decide_eq_decide]
    omega
  have e2 : nxi N i c c' (p + 1) = nxi N i c c' p := by
    unfold nxi
    by_cases h : i + 1 < c
    · by_cases h2 : c' ≤ i + 1 ∧ i + 1 < p
      · omega
      · rw [if_pos ⟨h, by omega⟩, if_pos ⟨h, h2⟩]
    · rw [if_neg (by omega), if_neg (by omega)]
  rw [e, e2]
  exact h i hi
end Go.Proofs.YtkoiadebacdklaaGreatFmt
