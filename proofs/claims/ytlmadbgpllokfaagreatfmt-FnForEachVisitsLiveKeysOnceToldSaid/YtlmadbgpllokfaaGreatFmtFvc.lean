/- The callback of FnForEachVisitsLiveKeysOnce: walked. -/
import Derived.Test.YtlmadbgpllokfaaGreatFmtFva
namespace Go.Proofs.YtlmadbgpllokfaaGreatFmt
open Go.RowKit Go.Mapy Go.Tbl
set_option maxRecDepth 100000

/-- The captured variables and what they hold. -/
structure Vs (w : World) (B : Nat) (b0 b1 b2 b3 b4 b5 b6 b7 b8 b9 b10 b11 b12 b13 ni ns La gi gc nI c1 nV c2 nD c3 nS c4 nW c5 nE c6 kL kM : Nat) (a1 a2 a3 a4 a5 a6 aL aM : Option Addr) (ik : Nat → Int) (iv : Nat → Nat) (id : Nat → Bool) (sk : Nat → ByteArray) (sv : Nat → Nat) (sd li ls : Nat → Bool) (ci cs : Nat → Nat) : Prop where
  v0 : Blk w b0 [.int .i64 ni] 3
  v1 : Blk w b1 [.slice aL ni kL] 59
  v2 : Blk w b2 [.pointer (some ⟨La, 0, none⟩)] 30
  v3 : Blk w b3 [.slice a1 nI c1] 93
  v4 : Blk w b4 [.slice a3 nD c3] 59
  v5 : Blk w b5 [.slice a2 nV c2] 58
  v6 : Blk w b6 [.bool false] 4
  v7 : Blk w b7 [.slice (some ⟨gi, 0, none⟩) ni ni] 93
  v8 : Blk w b8 [.int .i64 ns] 3
  v9 : Blk w b9 [.slice aM ns kM] 59
  v10 : Blk w b10 [.slice a4 nS c4] 57
  v11 : Blk w b11 [.slice a6 nE c6] 59
  v12 : Blk w b12 [.slice a5 nW c5] 58
  v13 : Blk w b13 [.slice (some ⟨gc, 0, none⟩) ns ns] 93
  h1 : Held w B a1 ni fun i => .int .i64 (ik i)
  h2 : Held w B a2 ni fun i => .float .f64 (iv i)
  h3 : Held w B a3 ni fun i => .bool (id i)
  h4 : Held w B a4 ns fun i => .string (sk i)
  h5 : Held w B a5 ns fun i => .float .f64 (sv i)
  h6 : Held w B a6 ns fun i => .bool (sd i)
  hL : Held w B aL ni fun i => .bool (li i)
  hM : Held w B aM ns fun i => .bool (ls i)
  ki : Blk w gi (tab ni fun i => .int .i64 (ci i)) 3
  kc : Blk w gc (tab ns fun i => .int .i64 (cs i)) 3
  lo : B ≤ gi ∧ B ≤ gc
  ne : gi ≠ gc
  far : b0 ≠ gi ∧ b0 ≠ gc ∧ b1 ≠ gi ∧ b1 ≠ gc ∧ b2 ≠ gi ∧ b2 ≠ gc ∧ b3 ≠ gi ∧ b3 ≠ gc ∧ b4 ≠ gi ∧ b4 ≠ gc ∧ b5 ≠ gi ∧ b5 ≠ gc ∧ b6 ≠ gi ∧ b6 ≠ gc ∧ b7 ≠ gi ∧ b7 ≠ gc ∧ b8 ≠ gi ∧ b8 ≠ gc ∧ b9 ≠ gi ∧ b9 ≠ gc ∧ b10 ≠ gi ∧ b10 ≠ gc ∧ b11 ≠ gi ∧ b11 ≠ gc ∧ b12 ≠ gi ∧ b12 ≠ gc ∧ b13 ≠ gi ∧ b13 ≠ gc
  l1 : ni ≤ nI ∧ ni ≤ nV ∧ ni ≤ nD ∧ ns ≤ nS ∧ ns ≤ nW ∧ ns ≤ nE
  l2 : ni ≤ 4096 ∧ ns ≤ 4096
theorem Vs.upd {w w' : World} {B : Nat} {b0 b1 b2 b3 b4 b5 b6 b7 b8 b9 b10 b11 b12 b13 ni ns La gi gc nI c1 nV c2 nD c3 nS c4 nW c5 nE c6 kL kM : Nat} {a1 a2 a3 a4 a5 a6 aL aM : Option Addr} {ik : Nat → Int} {iv : Nat → Nat} {id : Nat → Bool} {sk : Nat → ByteArray} {sv : Nat → Nat} {sd li ls : Nat → Bool} {ci cs : Nat → Nat} (h : Vs w B b0 b1 b2 b3 b4 b5 b6 b7 b8 b9 b10 b11 b12 b13 ni ns La gi gc nI c1 nV c2 nD c3 nS c4 nW c5 nE c6 kL kM a1 a2 a3 a4 a5 a6 aL aM ik iv id sk sv sd li ls ci cs) {X : Nat → Prop} (hu : Upd X w w') (hB : ∀ c, X c → B ≤ c) (hx : ¬ X b0 ∧ ¬ X b1 ∧ ¬ X b2 ∧ ¬ X b3 ∧ ¬ X b4 ∧ ¬ X b5 ∧ ¬ X b6 ∧ ¬ X b7 ∧ ¬ X b8 ∧ ¬ X b9 ∧ ¬ X b10 ∧ ¬ X b11 ∧ ¬ X b12 ∧ ¬ X b13) (hg : ¬ X gi ∧ ¬ X gc) : Vs w' B b0 b1 b2 b3 b4 b5 b6 b7 b8 b9 b10 b11 b12 b13 ni ns La gi gc nI c1 nV c2 nD c3 nS c4 nW c5 nE c6 kL kM a1 a2 a3 a4 a5 a6 aL aM ik iv id sk sv sd li ls ci cs where
  v0 := hu.blk h.v0 hx.1
  v1 := hu.blk h.v1 hx.2.1
  v2 := hu.blk h.v2 hx.2.2.1
  v3 := hu.blk h.v3 hx.2.2.2.1
  v4 := hu.blk h.v4 hx.2.2.2.2.1
  v5 := hu.blk h.v5 hx.2.2.2.2.2.1
  v6 := hu.blk h.v6 hx.2.2.2.2.2.2.1
  v7 := hu.blk h.v7 hx.2.2.2.2.2.2.2.1
  v8 := hu.blk h.v8 hx.2.2.2.2.2.2.2.2.1
  v9 := hu.blk h.v9 hx.2.2.2.2.2.2.2.2.2.1
  v10 := hu.blk h.v10 hx.2.2.2.2.2.2.2.2.2.2.1
  v11 := hu.blk h.v11 hx.2.2.2.2.2.2.2.2.2.2.2.1
  v12 := hu.blk h.v12 hx.2.2.2.2.2.2.2.2.2.2.2.2.1
  v13 := hu.blk h.v13 hx.2.2.2.2.2.2.2.2.2.2.2.2.2
  h1 := h.h1.upd hu hB
  h2 := h.h2.upd hu hB
  h3 := h.h3.upd hu hB
  h4 := h.h4.upd hu hB
  h5 := h.h5.upd hu hB
  h6 := h.h6.upd hu hB
  hL := h.hL.upd hu hB
  hM := h.hM.upd hu hB
  ki := hu.blk h.ki hg.1
  kc := hu.blk h.kc hg.2
  lo := h.lo
  ne := h.ne
  far := h.far
  l1 := h.l1
  l2 := h.l2
theorem Vs.same {w w' : World} {B : Nat} {b0 b1 b2 b3 b4 b5 b6 b7 b8 b9 b10 b11 b12 b13 ni ns La gi gc nI c1 nV c2 nD c3 nS c4 nW c5 nE c6 kL kM : Nat} {a1 a2 a3 a4 a5 a6 aL aM : Option Addr} {ik : Nat → Int} {iv : Nat → Nat} {id : Nat → Bool} {sk : Nat → ByteArray} {sv : Nat → Nat} {sd li ls : Nat → Bool} {ci cs : Nat → Nat} (h : Vs w B b0 b1 b2 b3 b4 b5 b6 b7 b8 b9 b10 b11 b12 b13 ni ns La gi gc nI c1 nV c2 nD c3 nS c4 nW c5 nE c6 kL kM a1 a2 a3 a4 a5 a6 aL aM ik iv id sk sv sd li ls ci cs) (hu : Upd (fun _ => False) w w') : Vs w' B b0 b1 b2 b3 b4 b5 b6 b7 b8 b9 b10 b11 b12 b13 ni ns La gi gc nI c1 nV c2 nD c3 nS c4 nW c5 nE c6 kL kM a1 a2 a3 a4 a5 a6 aL aM ik iv id sk sv sd li ls ci cs :=
  h.upd hu (fun _ h => h.elim) ⟨fun h => h, fun h => h, fun h => h, fun h => h, fun h => h, fun h => h, fun h => h, fun h => h, fun h => h, fun h => h, fun h => h, fun h => h, fun h => h, fun h => h⟩ ⟨fun h => h, fun h => h⟩
/-- One more at the m-th of the whole numbers. -/
theorem Vs.int {w w' : World} {B : Nat} {b0 b1 b2 b3 b4 b5 b6 b7 b8 b9 b10 b11 b12 b13 ni ns La gi gc nI c1 nV c2 nD c3 nS c4 nW c5 nE c6 kL kM : Nat} {a1 a2 a3 a4 a5 a6 aL aM : Option Addr} {ik : Nat → Int} {iv : Nat → Nat} {id : Nat → Bool} {sk : Nat → ByteArray} {sv : Nat → Nat} {sd li ls : Nat → Bool} {ci cs : Nat → Nat} (h : Vs w B b0 b1 b2 b3 b4 b5 b6 b7 b8 b9 b10 b11 b12 b13 ni ns La gi gc nI c1 nV c2 nD c3 nS c4 nW c5 nE c6 kL kM a1 a2 a3 a4 a5 a6 aL aM ik iv id sk sv sd li ls ci cs) (hu : Upd (fun _ => False) w w') (m : Nat) : Vs (w'.setCell ⟨gi, m, none⟩ (.int .i64 ((ci m : Int) + 1))) B b0 b1 b2 b3 b4 b5 b6 b7 b8 b9 b10 b11 b12 b13 ni ns La gi gc nI c1 nV c2 nD c3 nS c4 nW c5 nE c6 kL kM a1 a2 a3 a4 a5 a6 aL aM ik iv id sk sv sd li ls (fun i => if i = m then ci i + 1 else ci i) cs := by
  have h2 := h.same hu
  have hs : Upd (fun c => c = gi) w' (w'.setCell ⟨gi, m, none⟩ (.int .i64 ((ci m : Int) + 1))) := (Upd.refl _ _).setCell _ _ (.inl rfl)
  obtain ⟨f0, f1, f2, f3, f4, f5, f6, f7, f8, f9, f10, f11, f12, f13⟩ : (b0 ≠ gi) ∧ (b1 ≠ gi) ∧ (b2 ≠ gi) ∧ (b3 ≠ gi) ∧ (b4 ≠ gi) ∧ (b5 ≠ gi) ∧ (b6 ≠ gi) ∧ (b7 ≠ gi) ∧ (b8 ≠ gi) ∧ (b9 ≠ gi) ∧ (b10 ≠ gi) ∧ (b11 ≠ gi) ∧ (b12 ≠ gi) ∧ (b13 ≠ gi) := ⟨h.far.1, h.far.2.2.1, h.far.2.2.2.2.1, h.far.2.2.2.2.2.2.1, h.far.2.2.2.2.2.2.2.2.1, h.far.2.2.2.2.2.2.2.2.2.2.1, h.far.2.2.2.2.2.2.2.2.2.2.2.2.1, h.far.2.2.2.2.2.2.2.2.2.2.2.2.2.2.1, h.far.2.2.2.2.2.2.2.2.2.2.2.2.2.2.2.2.1, h.far.2.2.2.2.2.2.2.2.2.2.2.2.2.2.2.2.2.2.1, h.far.2.2.2.2.2.2.2.2.2.2.2.2.2.2.2.2.2.2.2.2.1, h.far.2.2.2.2.2.2.2.2.2.2.2.2.2.2.2.2.2.2.2.2.2.2.1, h.far.2.2.2.2.2.2.2.2.2.2.2.2.2.2.2.2.2.2.2.2.2.2.2.2.1, h.far.2.2.2.2.2.2.2.2.2.2.2.2.2.2.2.2.2.2.2.2.2.2.2.2.2.2.1⟩
  constructor
  · exact hs.blk h2.v0 f0
  · exact hs.blk h2.v1 f1
  · exact hs.blk h2.v2 f2
  · exact hs.blk h2.v3 f3
  · exact hs.blk h2.v4 f4
  · exact hs.blk h2.v5 f5
  · exact hs.blk h2.v6 f6
  · exact hs.blk h2.v7 f7
  · exact hs.blk h2.v8 f8
  · exact hs.blk h2.v9 f9
  · exact hs.blk h2.v10 f10
  · exact hs.blk h2.v11 f11
  · exact hs.blk h2.v12 f12
  · exact hs.blk h2.v13 f13
  · exact h2.h1.upd hs (fun c e => by rw [e]; exact h.lo.1)
  · exact h2.h2.upd hs (fun c e => by rw [e]; exact h.lo.1)
  · exact h2.h3.upd hs (fun c e => by rw [e]; exact h.lo.1)
  · exact h2.h4.upd hs (fun c e => by rw [e]; exact h.lo.1)
  · exact h2.h5.upd hs (fun c e => by rw [e]; exact h.lo.1)
  · exact h2.h6.upd hs (fun c e => by rw [e]; exact h.lo.1)
  · exact h2.hL.upd hs (fun c e => by rw [e]; exact h.lo.1)
  · exact h2.hM.upd hs (fun c e => by rw [e]; exact h.lo.1)
  · have h3 := h2.ki.set m (.int .i64 ((ci m : Int) + 1))
    rw [tab_set] at h3
    rw [tab_congr (g := fun i => if i = m then Value.int .i64 ((ci m : Int) + 1) else Value.int .i64 (ci i)) (fun i _ => by
      by_cases e : i = m
      · rw [if_pos e, if_pos e, e]
        rfl
      · rw [if_neg e, if_neg e])]
    exact h3
  · exact hs.blk h2.kc h.ne.symm
  · exact h.lo
  · exact h.ne
  · exact h.far
  · exact h.l1
  · exact h.l2
/-- .. of the texts. -/
theorem Vs.txt {w w' : World} {B : Nat} {b0 b1 b2 b3 b4 b5 b6 b7 b8 b9 b10 b11 b12 b13 ni ns La gi gc nI c1 nV c2 nD c3 nS c4 nW c5 nE c6 kL kM : Nat} {a1 a2 a3 a4 a5 a6 aL aM : Option Addr} {ik : Nat → Int} {iv : Nat → Nat} {id : Nat → Bool} {sk : Nat → ByteArray} {sv : Nat → Nat} {sd li ls : Nat → Bool} {ci cs : Nat → Nat} (h : Vs w B b0 b1 b2 b3 b4 b5 b6 b7 b8 b9 b10 b11 b12 b13 ni ns La gi gc nI c1 nV c2 nD c3 nS c4 nW c5 nE c6 kL kM a1 a2 a3 a4 a5 a6 aL aM ik iv id sk sv sd li ls ci cs) (hu : Upd (fun _ => False) w w') (m : Nat) : Vs (w'.setCell ⟨gc, m, none⟩ (.int .i64 ((cs m : Int) + 1))) B b0 b1 b2 b3 b4 b5 b6 b7 b8 b9 b10 b11 b12 b13 ni ns La gi gc nI c1 nV c2 nD c3 nS c4 nW c5 nE c6 kL kM a1 a2 a3 a4 a5 a6 aL aM ik iv id sk sv sd li ls ci (fun i => if i = m then cs i + 1 else cs i) := by
  have h2 := h.same hu
  have hs : Upd (fun c => c = gc) w' (w'.setCell ⟨gc, m, none⟩ (.int .i64 ((cs m : Int) + 1))) := (Upd.refl _ _).setCell _ _ (.inl rfl)
  obtain ⟨f0, f1, f2, f3, f4, f5, f6, f7, f8, f9, f10, f11, f12, f13⟩ : (b0 ≠ gc) ∧ (b1 ≠ gc) ∧ (b2 ≠ gc) ∧ (b3 ≠ gc) ∧ (b4 ≠ gc) ∧ (b5 ≠ gc) ∧ (b6 ≠ gc) ∧ (b7 ≠ gc) ∧ (b8 ≠ gc) ∧ (b9 ≠ gc) ∧ (b10 ≠ gc) ∧ (b11 ≠ gc) ∧ (b12 ≠ gc) ∧ (b13 ≠ gc) := ⟨h.far.2.1, h.far.2.2.2.1, h.far.2.2.2.2.2.1, h.far.2.2.2.2.2.2.2.1, h.far.2.2.2.2.2.2.2.2.2.1, h.far.2.2.2.2.2.2.2.2.2.2.2.1, h.far.2.2.2.2.2.2.2.2.2.2.2.2.2.1, h.far.2.2.2.2.2.2.2.2.2.2.2.2.2.2.2.1, h.far.2.2.2.2.2.2.2.2.2.2.2.2.2.2.2.2.2.1, h.far.2.2.2.2.2.2.2.2.2.2.2.2.2.2.2.2.2.2.2.1, h.far.2.2.2.2.2.2.2.2.2.2.2.2.2.2.2.2.2.2.2.2.2.1, h.far.2.2.2.2.2.2.2.2.2.2.2.2.2.2.2.2.2.2.2.2.2.2.2.1, h.far.2.2.2.2.2.2.2.2.2.2.2.2.2.2.2.2.2.2.2.2.2.2.2.2.2.1, h.far.2.2.2.2.2.2.2.2.2.2.2.2.2.2.2.2.2.2.2.2.2.2.2.2.2.2.2⟩
  constructor
  · exact hs.blk h2.v0 f0
  · exact hs.blk h2.v1 f1
  · exact hs.blk h2.v2 f2
  · exact hs.blk h2.v3 f3
  · exact hs.blk h2.v4 f4
  · exact hs.blk h2.v5 f5
  · exact hs.blk h2.v6 f6
  · exact hs.blk h2.v7 f7
  · exact hs.blk h2.v8 f8
  · exact hs.blk h2.v9 f9
  · exact hs.blk h2.v10 f10
  · exact hs.blk h2.v11 f11
  · exact hs.blk h2.v12 f12
  · exact hs.blk h2.v13 f13
  · exact h2.h1.upd hs (fun c e => by rw [e]; exact h.lo.2)
  · exact h2.h2.upd hs (fun c e => by rw [e]; exact h.lo.2)
  · exact h2.h3.upd hs (fun c e => by rw [e]; exact h.lo.2)
  · exact h2.h4.upd hs (fun c e => by rw [e]; exact h.lo.2)
  · exact h2.h5.upd hs (fun c e => by rw [e]; exact h.lo.2)
  · exact h2.h6.upd hs (fun c e => by rw [e]; exact h.lo.2)
  · exact h2.hL.upd hs (fun c e => by rw [e]; exact h.lo.2)
  · exact h2.hM.upd hs (fun c e => by rw [e]; exact h.lo.2)
  · exact hs.blk h2.ki h.ne
  · have h3 := h2.kc.set m (.int .i64 ((cs m : Int) + 1))
    rw [tab_set] at h3
    rw [tab_congr (g := fun i => if i = m then Value.int .i64 ((cs m : Int) + 1) else Value.int .i64 (cs i)) (fun i _ => by
      by_cases e : i = m
      · rw [if_pos e, if_pos e, e]
        rfl
      · rw [if_neg e, if_neg e])]
    exact h3
  · exact h.lo
  · exact h.ne
  · exact h.far
  · exact h.l1
  · exact h.l2

set_option maxHeartbeats 6400000 in
theorem clo_int (w : World) (B : Nat) (b0 b1 b2 b3 b4 b5 b6 b7 b8 b9 b10 b11 b12 b13 ni ns La gi gc nI c1 nV c2 nD c3 nS c4 nW c5 nE c6 kL kM : Nat) (a1 a2 a3 a4 a5 a6 aL aM : Option Addr) (ik : Nat → Int) (iv : Nat → Nat) (id : Nat → Bool) (sk : Nat → ByteArray) (sv : Nat → Nat) (sd li ls : Nat → Bool) (ci cs : Nat → Nat) (q : Key) (b m : Nat) (hv : Vs w B b0 b1 b2 b3 b4 b5 b6 b7 b8 b9 b10 b11 b12 b13 ni ns La gi gc nI c1 nV c2 nD c3 nS c4 nW c5 nE c6 kL kM a1 a2 a3 a4 a5 a6 aL aM ik iv id sk sv sd li ls ci cs) (hh : HitK ni li (fun i => ikey (ik i)) id iv q b m) (hb : keq (.num b) (.num b) = true) (hc : ci m ≤ 1048576 ∧ cs m ≤ 1048576) :
    Calls Tryz.prog 54 #[kval q, numv b, .pointer (some ⟨b0, 0, none⟩), .pointer (some ⟨b1, 0, none⟩), .pointer (some ⟨b2, 0, none⟩), .pointer (some ⟨b3, 0, none⟩), .pointer (some ⟨b4, 0, none⟩), .pointer (some ⟨b5, 0, none⟩), .pointer (some ⟨b6, 0, none⟩), .pointer (some ⟨b7, 0, none⟩), .pointer (some ⟨b8, 0, none⟩), .pointer (some ⟨b9, 0, none⟩), .pointer (some ⟨b10, 0, none⟩), .pointer (some ⟨b11, 0, none⟩), .pointer (some ⟨b12, 0, none⟩), .pointer (some ⟨b13, 0, none⟩)] w fun e w' => e = .returned (.tuple #[]) ∧ ∃ w1, Upd (fun _ => False) w w1 ∧ w' = w1.setCell ⟨gi, m, none⟩ (.int .i64 ((ci m : Int) + 1)) := by
  have VS := Lib.hid hv
  have HH := Lib.hid hh
  have hmn := hh.1
  clear hh
  have HB := Lib.hid hb
  have HC := Lib.hid hc
  have far := Lib.hid hv.far
  have l1 := hv.l1
  have l2 := hv.l2
  clear hv hb hc
  have NB : numv b = .iface 53 (.float .f64 b) := rfl
  obtain ⟨x, hx⟩ : ∃ x, kval q = x := ⟨_, rfl⟩
  obtain ⟨y, hy⟩ : ∃ y, numv b = y := ⟨_, rfl⟩
  have HX := Lib.hid hx
  have HY := Lib.hid hy
  rw [hx, hy]
  clear hx hy NB
  go_enter Tryz.func54, Tryz.ntmps54
  go_wp2
  go_loopw [18] (fun iv wr => ∃ i : Nat, i ≤ m ∧ iv = .int .i64 i ∧ Upd (fun _ => False) w wr) (fun iv _ => m - (intOf iv).toNat)
  case atStart => exact ⟨0, Nat.zero_le _, rfl, Upd.refl _ _⟩
  case round =>
    obtain ⟨i, hi, rfl, hu⟩ := hrel
    have U := Lib.hid hu
    have V := Lib.hid (VS.out.same hu)
    clear hu
    have x0 := V.out.v0.at (o := 0) rfl
    have x1 := V.out.v1.at (o := 0) rfl
    have x2 := V.out.v2.at (o := 0) rfl
    have x3 := V.out.v3.at (o := 0) rfl
    have i1 : (0 : Int) ≤ (i : Int) := by omega
    by_cases hlt : i < m
    · have i2 : (i : Int) < (ni : Int) := by omega
      obtain ⟨bl, ol, hal, hcl⟩ := V.out.hL.cells.one (j := i) (by omega)
      subst hal
      cases hl : li i with
      | false =>
        rw [hl] at hcl
        clear hl
        go_wp2_with fail
        go_quiet (fail)
        go_wp2
        go_roundw
        case rel => exact ⟨i + 1, by omega, by go_num, U.out.drewN _⟩
        case measure => simp [intOf]; omega
      | true =>
        rw [hl] at hcl
        obtain ⟨bk, ok, hak, hck⟩ := V.out.h1.cells.one (j := i) (by omega)
        subst hak
        have i3 : (i : Int) < (nI : Int) := by omega
        have RE : Hid (∀ w, Calls Tryz.prog 35 #[.pointer (some ⟨La, 0, none⟩), x, .iface 53 (.float .f64 (FloatKind.f64.nearest (ik i)))] w fun e w' => e = .returned (.bool false) ∧ ∃ n, w' = w.drewN n) := Lib.hid (fun w => by
          have h := raw_equal_key (some ⟨La, 0, none⟩) q (ikey (ik i)) w
          rw [HH.out.2.2.2.2.2 i (by omega) (by omega) hl, HX.out] at h
          exact h)
        clear hl
        go_wp2_with fail
        go_quiet ((go_at_call 35; exact Calls.quiet_of (RE.out _)))
        go_wp2
        go_roundw
        case rel => exact ⟨i + 1, by omega, by go_num, U.out.drewN _⟩
        case measure => simp [intOf]; omega
    · obtain rfl : i = m := by omega
      obtain ⟨m, hm⟩ : ∃ m, m = i := ⟨_, rfl⟩
      subst hm
      have i2 : (m : Int) < (ni : Int) := by omega
      have i3 : (m : Int) < (nI : Int) := by omega
      have i4 : (m : Int) < (nD : Int) := by omega
      have i5 : (m : Int) < (nV : Int) := by omega
      have i6 : (0 : Int) ≤ (ci m : Int) := by omega
      have i7 : (ci m : Int) ≤ 1048576 := by have := HC.out.1; omega
      obtain ⟨bl, ol, hal, hcl⟩ := V.out.hL.cells.one (j := m) (by omega)
      obtain ⟨bk, ok, hak, hck⟩ := V.out.h1.cells.one (j := m) (by omega)
      obtain ⟨bd, od, had, hcd⟩ := V.out.h3.cells.one (j := m) (by omega)
      obtain ⟨bv, ov, hav, hcv⟩ := V.out.h2.cells.one (j := m) (by omega)
      subst hal
      subst hak
      subst had
      subst hav
      rw [HH.out.2.1] at hcl
      rw [HH.out.2.2.2.1] at hcd
      rw [HH.out.2.2.2.2.1] at hcv
      have RE : Hid (∀ w, Calls Tryz.prog 35 #[.pointer (some ⟨La, 0, none⟩), x, .iface 53 (.float .f64 (FloatKind.f64.nearest (ik m)))] w fun e w' => e = .returned (.bool true) ∧ ∃ n, w' = w.drewN n) := Lib.hid (fun w => by
        have h := raw_equal_key (some ⟨La, 0, none⟩) q (ikey (ik m)) w
        rw [HH.out.2.2.1, HX.out] at h
        exact h)
      have RF : Hid (∀ w, Calls Tryz.prog 35 #[.pointer (some ⟨La, 0, none⟩), y, .iface 53 (.float .f64 b)] w fun e w' => e = .returned (.bool true) ∧ ∃ n, w' = w.drewN n) := Lib.hid (fun w => by
        have h := raw_equal_key (some ⟨La, 0, none⟩) (.num b) (.num b) w
        rw [HB.out, show kval (.num b) = y from HY.out] at h
        rw [show y = Value.iface 53 (.float .f64 b) from HY.out.symm] at h ⊢
        exact h)
      go_wp2_with fail
      go_quiet ((go_at_call 35; exact Calls.quiet_of (RE.out _)))
      go_wp2_with fail
      obtain ⟨wd, hwd⟩ : ∃ wd, wd = wr.drewN nq := ⟨_, rfl⟩
      have hcd2 : wd.cell? ⟨bd, od + m, none⟩ = some (.bool false) := by rw [hwd]; exact hcd
      have hcv2 : wd.cell? ⟨bv, ov + m, none⟩ = some (.float .f64 b) := by rw [hwd]; exact hcv
      have hg : wd.cell? ⟨gi, m, none⟩ = some (.int .i64 (ci m)) := by rw [hwd]; exact V.out.ki.at (tab_in (by omega))
      have hf : wd.frozen? ⟨gi, m, none⟩ = false := by rw [hwd]; exact V.out.ki.free m
      have UD := Lib.hid (show Upd (fun _ => False) w wd by rw [hwd]; exact U.out.drewN _)
      have V2 := Lib.hid (VS.out.same UD.out)
      rw [← hwd]
      clear hwd hcl hck hcd hcv x0 x1 x2 x3 V
      have V := V2
      clear V2
      have x2 := V.out.v2.at (o := 0) rfl
      have x4 := V.out.v4.at (o := 0) rfl
      have x5 := V.out.v5.at (o := 0) rfl
      have x6 := V.out.v6.at (o := 0) rfl
      have x7 := V.out.v7.at (o := 0) rfl

      go_quiet ((go_at_call 35; exact Calls.quiet_of (RF.out _)))
      go_wp2
      refine bodyPost_ret (results_none rfl _ _ _) rfl ?_
      exact ⟨rfl, _, UD.out.drewN _, rfl⟩

set_option maxHeartbeats 6400000 in
theorem clo_str (w : World) (B : Nat) (b0 b1 b2 b3 b4 b5 b6 b7 b8 b9 b10 b11 b12 b13 ni ns La gi gc nI c1 nV c2 nD c3 nS c4 nW c5 nE c6 kL kM : Nat) (a1 a2 a3 a4 a5 a6 aL aM : Option Addr) (ik : Nat → Int) (iv : Nat → Nat) (id : Nat → Bool) (sk : Nat → ByteArray) (sv : Nat → Nat) (sd li ls : Nat → Bool) (ci cs : Nat → Nat) (q : Key) (b m : Nat) (hv : Vs w B b0 b1 b2 b3 b4 b5 b6 b7 b8 b9 b10 b11 b12 b13 ni ns La gi gc nI c1 nV c2 nD c3 nS c4 nW c5 nE c6 kL kM a1 a2 a3 a4 a5 a6 aL aM ik iv id sk sv sd li ls ci cs) (hno : NoK ni li (fun i => ikey (ik i)) q) (hh : HitK ns ls (fun j => .str (sk j)) sd sv q b m) (hb : keq (.num b) (.num b) = true) (hc : ci m ≤ 1048576 ∧ cs m ≤ 1048576) :
    Calls Tryz.prog 54 #[kval q, numv b, .pointer (some ⟨b0, 0, none⟩), .pointer (some ⟨b1, 0, none⟩), .pointer (some ⟨b2, 0, none⟩), .pointer (some ⟨b3, 0, none⟩), .pointer (some ⟨b4, 0, none⟩), .pointer (some ⟨b5, 0, none⟩), .pointer (some ⟨b6, 0, none⟩), .pointer (some ⟨b7, 0, none⟩), .pointer (some ⟨b8, 0, none⟩), .pointer (some ⟨b9, 0, none⟩), .pointer (some ⟨b10, 0, none⟩), .pointer (some ⟨b11, 0, none⟩), .pointer (some ⟨b12, 0, none⟩), .pointer (some ⟨b13, 0, none⟩)] w fun e w' => e = .returned (.tuple #[]) ∧ ∃ w1, Upd (fun _ => False) w w1 ∧ w' = w1.setCell ⟨gc, m, none⟩ (.int .i64 ((cs m : Int) + 1)) := by
  have VS := Lib.hid hv
  have HH := Lib.hid hh
  have HN := Lib.hid hno
  have hmn := hh.1
  clear hh hno
  have HB := Lib.hid hb
  have HC := Lib.hid hc
  have far := Lib.hid hv.far
  have l1 := hv.l1
  have l2 := hv.l2
  clear hv hb hc
  have NB : numv b = .iface 53 (.float .f64 b) := rfl
  obtain ⟨x, hx⟩ : ∃ x, kval q = x := ⟨_, rfl⟩
  obtain ⟨y, hy⟩ : ∃ y, numv b = y := ⟨_, rfl⟩
  have HX := Lib.hid hx
  have HY := Lib.hid hy
  rw [hx, hy]
  clear hx hy NB
  go_enter Tryz.func54, Tryz.ntmps54
  go_wp2
  go_loopw [18] (fun iv wr => ∃ i : Nat, i ≤ ni ∧ iv = .int .i64 i ∧ Upd (fun _ => False) w wr) (fun iv _ => ni - (intOf iv).toNat)
  case atStart => exact ⟨0, Nat.zero_le _, rfl, Upd.refl _ _⟩
  case round =>
    obtain ⟨i, hi, rfl, hu⟩ := hrel
    have U := Lib.hid hu
    have V := Lib.hid (VS.out.same hu)
    clear hu
    have x0 := V.out.v0.at (o := 0) rfl
    have x1 := V.out.v1.at (o := 0) rfl
    have x2 := V.out.v2.at (o := 0) rfl
    have x3 := V.out.v3.at (o := 0) rfl
    have i1 : (0 : Int) ≤ (i : Int) := by omega
    by_cases hlt : i < ni
    · have i2 : (i : Int) < (ni : Int) := by omega
      obtain ⟨bl, ol, hal, hcl⟩ := V.out.hL.cells.one (j := i) (by omega)
      subst hal
      cases hl : li i with
      | false =>
        rw [hl] at hcl
        clear hl
        go_wp2_with fail
        go_quiet (fail)
        go_wp2
        go_roundw
        case rel => exact ⟨i + 1, by omega, by go_num, U.out.drewN _⟩
        case measure => simp [intOf]; omega
      | true =>
        rw [hl] at hcl
        obtain ⟨bk, ok, hak, hck⟩ := V.out.h1.cells.one (j := i) (by omega)
        subst hak
        have i3 : (i : Int) < (nI : Int) := by omega
        have RE : Hid (∀ w, Calls Tryz.prog 35 #[.pointer (some ⟨La, 0, none⟩), x, .iface 53 (.float .f64 (FloatKind.f64.nearest (ik i)))] w fun e w' => e = .returned (.bool false) ∧ ∃ n, w' = w.drewN n) := Lib.hid (fun w => by
          have h := raw_equal_key (some ⟨La, 0, none⟩) q (ikey (ik i)) w
          rw [HN.out i hlt hl, HX.out] at h
          exact h)
        clear hl
        go_wp2_with fail
        go_quiet ((go_at_call 35; exact Calls.quiet_of (RE.out _)))
        go_wp2
        go_roundw
        case rel => exact ⟨i + 1, by omega, by go_num, U.out.drewN _⟩
        case measure => simp [intOf]; omega
    · obtain rfl : i = ni := by omega
      go_wp2_with fail
      go_loopw [19] (fun jv wr => ∃ j : Nat, j ≤ m ∧ jv = .int .i64 j ∧ Upd (fun _ => False) w wr) (fun jv _ => m - (intOf jv).toNat)
      case atStart => exact ⟨0, Nat.zero_le _, rfl, U.out⟩
      case round =>
        obtain ⟨j, hj, rfl, hu⟩ := hrel
        have U5 := Lib.hid hu
        have V5 := Lib.hid (VS.out.same hu)
        clear hu x0 x1 x2 x3 V U
        have V := V5
        have U := U5
        clear V5 U5
        have x2 := V.out.v2.at (o := 0) rfl
        have x8 := V.out.v8.at (o := 0) rfl
        have x9 := V.out.v9.at (o := 0) rfl
        have x10 := V.out.v10.at (o := 0) rfl
        have i1 : (0 : Int) ≤ (j : Int) := by omega
        by_cases hlt : j < m
        · have i2 : (j : Int) < (ns : Int) := by omega
          obtain ⟨bl, ol, hal, hcl⟩ := V.out.hM.cells.one (j := j) (by omega)
          subst hal
          cases hl : ls j with
          | false =>
            rw [hl] at hcl
            clear hl
            go_wp2_with fail
            go_quiet (fail)
            go_wp2
            go_roundw
            case rel => exact ⟨j + 1, by omega, by go_num, U.out.drewN _⟩
            case measure => simp [intOf]; omega
          | true =>
            rw [hl] at hcl
            obtain ⟨bk, ok, hak, hck⟩ := V.out.h4.cells.one (j := j) (by omega)
            subst hak
            have i3 : (j : Int) < (nS : Int) := by omega
            have RE : Hid (∀ w, Calls Tryz.prog 35 #[.pointer (some ⟨La, 0, none⟩), x, .iface 78 (.string (sk j))] w fun e w' => e = .returned (.bool false) ∧ ∃ n, w' = w.drewN n) := Lib.hid (fun w => by
              have h := raw_equal_key (some ⟨La, 0, none⟩) q (.str (sk j)) w
              rw [HH.out.2.2.2.2.2 j (by omega) (by omega) hl, HX.out] at h
              exact h)
            clear hl
            go_wp2_with fail
            go_quiet ((go_at_call 35; exact Calls.quiet_of (RE.out _)))
            go_wp2
            go_roundw
            case rel => exact ⟨j + 1, by omega, by go_num, U.out.drewN _⟩
            case measure => simp [intOf]; omega
        · obtain rfl : j = m := by omega
          obtain ⟨m, hm⟩ : ∃ m, m = j := ⟨_, rfl⟩
          subst hm
          have i2 : (m : Int) < (ns : Int) := by omega
          have i3 : (m : Int) < (nS : Int) := by omega
          have i4 : (m : Int) < (nE : Int) := by omega
          have i5 : (m : Int) < (nW : Int) := by omega
          have i6 : (0 : Int) ≤ (cs m : Int) := by omega
          have i7 : (cs m : Int) ≤ 1048576 := by have := HC.out.2; omega
          obtain ⟨bl, ol, hal, hcl⟩ := V.out.hM.cells.one (j := m) (by omega)
          obtain ⟨bk, ok, hak, hck⟩ := V.out.h4.cells.one (j := m) (by omega)
          obtain ⟨bd, od, had, hcd⟩ := V.out.h6.cells.one (j := m) (by omega)
          obtain ⟨bv, ov, hav, hcv⟩ := V.out.h5.cells.one (j := m) (by omega)
          subst hal
          subst hak
          subst had
          subst hav
          rw [HH.out.2.1] at hcl
          rw [HH.out.2.2.2.1] at hcd
          rw [HH.out.2.2.2.2.1] at hcv
          have RE : Hid (∀ w, Calls Tryz.prog 35 #[.pointer (some ⟨La, 0, none⟩), x, .iface 78 (.string (sk m))] w fun e w' => e = .returned (.bool true) ∧ ∃ n, w' = w.drewN n) := Lib.hid (fun w => by
            have h := raw_equal_key (some ⟨La, 0, none⟩) q (.str (sk m)) w
            rw [HH.out.2.2.1, HX.out] at h
            exact h)
          have RF : Hid (∀ w, Calls Tryz.prog 35 #[.pointer (some ⟨La, 0, none⟩), y, .iface 53 (.float .f64 b)] w fun e w' => e = .returned (.bool true) ∧ ∃ n, w' = w.drewN n) := Lib.hid (fun w => by
            have h := raw_equal_key (some ⟨La, 0, none⟩) (.num b) (.num b) w
            rw [HB.out, show kval (.num b) = y from HY.out] at h
            rw [show y = Value.iface 53 (.float .f64 b) from HY.out.symm] at h ⊢
            exact h)
          go_wp2_with fail
          go_quiet ((go_at_call 35; exact Calls.quiet_of (RE.out _)))
          go_wp2_with fail
          obtain ⟨wd, hwd⟩ : ∃ wd, wd = wr.drewN nq := ⟨_, rfl⟩
          have hcd2 : wd.cell? ⟨bd, od + m, none⟩ = some (.bool false) := by rw [hwd]; exact hcd
          have hcv2 : wd.cell? ⟨bv, ov + m, none⟩ = some (.float .f64 b) := by rw [hwd]; exact hcv
          have hg : wd.cell? ⟨gc, m, none⟩ = some (.int .i64 (cs m)) := by rw [hwd]; exact V.out.kc.at (tab_in (by omega))
          have hf : wd.frozen? ⟨gc, m, none⟩ = false := by rw [hwd]; exact V.out.kc.free m
          have UD := Lib.hid (show Upd (fun _ => False) w wd by rw [hwd]; exact U.out.drewN _)
          have V2 := Lib.hid (VS.out.same UD.out)
          rw [← hwd]
          clear hwd hcl hck hcd hcv x8 x9 x2 x10 V
          have V := V2
          clear V2
          have x2 := V.out.v2.at (o := 0) rfl
          have x11 := V.out.v11.at (o := 0) rfl
          have x12 := V.out.v12.at (o := 0) rfl
          have x6 := V.out.v6.at (o := 0) rfl
          have x13 := V.out.v13.at (o := 0) rfl

          go_quiet ((go_at_call 35; exact Calls.quiet_of (RF.out _)))
          go_wp2
          refine bodyPost_ret (results_none rfl _ _ _) rfl ?_
          exact ⟨rfl, _, UD.out.drewN _, rfl⟩
end Go.Proofs.YtlmadbgpllokfaaGreatFmt
