/- ForEach over a table, at a callback: walked. -/
import Derived.Test.YtlmadbgpllokfaaGreatFmtFra
import Derived.Deep.DeepCutAuto
namespace Go.Proofs.YtlmadbgpllokfaaGreatFmt
open Go.RowKit Go.Mapy Go.Tbl Go.ChangeMaps
set_option maxRecDepth 100000

theorem rangeLeft_eq {w : World} {b r : Nat} {es : Array MapEntry} {c : Nat} {m : Option Nat} {s : Nat} {seen : Array Nat} {cc : Nat} (hb : w.heap[b]? = some (.map es c)) (hr : w.heap[r]? = some (.mapIter m s seen cc)) : w.rangeLeft b r = (leftOf es seen).size := by
  simp only [World.rangeLeft, hb, hr]

set_option maxHeartbeats 12800000 in
theorem for_each_14 (x0 x1 x2 x3 x4 x5 x6 x7 x8 x9 x10 x11 x12 x13 : Value) (t : Tbs) (mt : Value) (S : St) (ks : List Value) (ix : List MapEntry) (w0 : World) (hT : Tab w0 t mt S ks ix) (hl : S.arr.length ≤ 65536)
    (hA : ∀ (i : Nat) (v : Value), S.arr[i]? = some v → NV v) (hNS : ∀ e ∈ S.str, NV e.val) (hNN : ∀ e ∈ S.num, NV e.val) (Inv : List Pair → World → Prop)
    (hcb : ∀ vis p w, p ∈ pairs S → vis.length < (pairs S).length → Inv vis w → Calls Tryz.prog 54 #[p.1, p.2, x0, x1, x2, x3, x4, x5, x6, x7, x8, x9, x10, x11, x12, x13] w fun e w' => e = .returned (.tuple #[]) ∧ Inv (vis ++ [p]) w' ∧ Upd (Cbs t w) w w')
    (hst : ∀ vis w w', Inv vis w → Upd (fun c => w0.heap.size ≤ c ∧ Its w c) w w' → Inv vis w') (h0 : Inv [] w0) :
    Calls Tryz.prog 73 #[.pointer (some ⟨t.T, 0, none⟩), .func (.func 54) #[] #[x0, x1, x2, x3, x4, x5, x6, x7, x8, x9, x10, x11, x12, x13]] w0 fun e w' => e = .returned (.tuple #[]) ∧ ∃ vis, vis.Perm (pairs S) ∧ Inv vis w' ∧ Upd (fun c => ¬ Fp t c) w0 w' := by
  obtain ⟨g, cap, ha⟩ : ∃ g cap, t.a = .slice (some ⟨g, 0, none⟩) S.arr.length cap := by
    rcases hT.ar.2 with ⟨h0, _⟩ | ⟨g, cap, cur, h0, _⟩
    · exact absurd h0 hT.an
    · exact ⟨g, cap, h0⟩
  obtain ⟨eS, cS, hms, hes⟩ := hT.st
  have SS := Lib.hid (hT.ss t.s rfl eS cS hms)
  have NDP := Lib.hid (hT.ss t.s rfl eS cS hms).1
  have HES := Lib.hid hes
  have HS0 := Lib.hid hms
  have c1 := hT.tb.at (o := 1) rfl
  rw [ha] at c1
  have HAA := Lib.hid ha
  have HA := Lib.hid hA
  have HNS := Lib.hid hNS
  have HNN := Lib.hid hNN
  have HCB := Lib.hid hcb
  have HST := Lib.hid hst
  have HT := Lib.hid hT
  have H0 := Lib.hid h0
  clear ha hA hNS hNN hcb hst hT h0 hms hes
  go_enter Tryz.func73, Tryz.ntmps73
  go_wp2
  go_loopw [20] (fun iv wr => ∃ (m : Nat) (vis : List Pair), m ≤ S.arr.length ∧ iv = .int .i64 m ∧ vis ++ arrP S.arr m = arrP S.arr 0 ∧ Inv vis wr ∧ Upd (fun c => ¬ Fp t c) w0 wr) (fun iv _ => S.arr.length - (intOf iv).toNat)
  case atStart => exact ⟨0, [], Nat.zero_le _, rfl, rfl, H0.out, Upd.refl _ _⟩
  case round =>
    obtain ⟨m, vis, hm, rfl, hvis, hinv, hu⟩ := hrel
    have HV := Lib.hid hvis
    have HI := Lib.hid hinv
    have HU := Lib.hid hu
    have hT1 := HT.out.upd hu (fun c hc h => h hc)
    clear hvis hinv hu H0
    by_cases hlt : m < S.arr.length
    · have own := hT1.ar
      rw [HAA.out] at own
      obtain ⟨⟨u, cu⟩, _, hx⟩ := owns_cell own hlt
      have hu0 : S.arr[m]? = some u := by rw [← hx]; exact cu
      have hnv := HA.out m u hu0
      have HX := Lib.hid hu0
      clear own hx hT1 hu0
      have i1 : (0 : Int) ≤ (m : Int) := by omega
      have i2 : (m : Int) < (S.arr.length : Int) := by omega
      rcases hnv with rfl | ⟨b, rfl⟩
      · unfold nilw at cu
        go_wp2
        go_roundw
        case rel => exact ⟨m + 1, vis, by omega, by go_num, by rw [← HV.out, arrP_none hlt (by rw [HX.out]; exact nilw_nil)], HI.out, HU.out⟩
        case measure => simp [intOf]; omega
      · have hcv := run_i2f 3 53 Tryz.underlying3 Tryz.underlying53 ((m : Int) + 1)
        have C : Calls Tryz.prog 54 #[.iface 53 (.float .f64 (FloatKind.f64.nearest ((m : Int) + 1))), .iface 53 (.float .f64 b), x0, x1, x2, x3, x4, x5, x6, x7, x8, x9, x10, x11, x12, x13] wr fun e w' => e = .returned (.tuple #[]) ∧ Inv (vis ++ [(arrKey m, numv b)]) w' ∧ Upd (Cbs t wr) wr w' := HCB.out vis (arrKey m, numv b) wr (List.mem_append.2 (.inl (mem_arrP.2 ⟨m, Nat.zero_le _, hlt, by rw [HX.out]; rfl, by rw [HX.out]; exact numv_nil b⟩))) (by
          have h1 : vis.length < (arrP S.arr 0).length := by
            rw [← HV.out, List.length_append, arrP_some hlt (by rw [HX.out]; exact numv_nil b)]
            simp
          unfold pairs
          rw [List.length_append]
          omega) HI.out
        have CC := Lib.hid C
        clear C
        go_wp2_with fail
        refine CC.out.mono ?_
        rintro e w3 ⟨rfl, hi3, hu3⟩
        have I3 := Lib.hid hi3
        have U3 := Lib.hid (HU.out.trans (hu3.mono (fun c _ h => h.1)))
        clear hi3 hu3 CC hcv
        go_wp2
        go_roundw
        case rel => exact ⟨m + 1, vis ++ [(arrKey m, numv b)], by omega, by go_num, by rw [← HV.out, arrP_some hlt (by rw [HX.out]; exact numv_nil b), HX.out, List.append_assoc]; rfl, I3.out, U3.out⟩
        case measure => simp [intOf]; omega
    · obtain rfl : m = S.arr.length := by omega
      have hvv : vis = arrP S.arr 0 := by rw [← HV.out, arrP_end (Nat.le_refl _), List.append_nil]
      subst hvv
      obtain ⟨w1, hw1⟩ : ∃ w1 : World, w1 = wr := ⟨_, rfl⟩
      subst hw1
      have c3 := hT1.tb.at (o := 3) rfl
      have hb1 : w1.heap[t.s]? = some (.map eS cS) := by rw [HU.out.block t.s (Array.getElem?_eq_some_iff.1 HS0.out).1 (fun h => h (.inr (.inr (.inr (.inl rfl)))))]; exact HS0.out
      have HU1 := Lib.hid HU.out
      clear hT1 HU HV hlt hm c1
      obtain ⟨r, hrr⟩ : ∃ r, r = w1.heap.size := ⟨_, rfl⟩
      have hrange := run_range_map w1 86 _ _ t.s eS cS Tryz.underlying86 hb1
      rw [← hrr] at hrange
      obtain ⟨wa, hwa⟩ : ∃ wa, wa = w1.alloc (.mapIter (some t.s) cS #[] cS) := ⟨_, rfl⟩
      rw [← hwa] at hrange
      have hia : wa.heap[r]? = some (.mapIter (some t.s) cS #[] cS) := by rw [hwa, hrr]; exact heap_alloc_new _ _
      have hua : Upd (fun _ => False) w1 wa := by rw [hwa]; exact (Upd.refl _ _).alloc _
      have IA := Lib.hid (HST.out _ _ _ HI.out (hua.mono (fun _ _ h => h.elim)))
      have UA := Lib.hid (HU1.out.trans (hua.mono (fun _ _ h => h.elim)))
      have RA := Lib.hid hia
      have RG := Lib.hid (show w0.heap.size ≤ r by rw [hrr]; exact HU1.out.size)
      have RF := Lib.hid (show ¬ Fp t r from fun h => by have := (HT.out.upd HU1.out (fun c hc h => h hc)).lt h; omega)
      clear hua hia hwa HI hrr
      go_wp2
      go_loopw [7] (fun _ wr => ∃ (seen : Array Nat) (cc : Nat) (vs : List Pair), wr.heap[r]? = some (.mapIter (some t.s) cS seen cc) ∧ cS ≤ cc ∧ Vis strKey eS seen vs ∧ Inv (arrP S.arr 0 ++ vs) wr ∧ Upd (fun c => ¬ Fp t c) w0 wr) (fun _ wr => wr.rangeLeft t.s r)
      case atStart => exact ⟨#[], cS, [], RA.out, Nat.le_refl _, vis_start _ _, by rw [List.append_nil]; exact IA.out, UA.out⟩
      case round =>
        obtain ⟨seen, cc, vs, hr, hsc, hvis, hinv, hu⟩ := hrel
        have HV := Lib.hid hvis
        have HI := Lib.hid hinv
        have HU := Lib.hid hu
        have HR := Lib.hid hr
        have hT := HT.out.upd HU.out (fun c hc h => h hc)
        have hb := show wr.heap[t.s]? = some (.map eS cS) by rw [HU.out.block t.s (Array.getElem?_eq_some_iff.1 HS0.out).1 (fun h => h (.inr (.inr (.inr (.inl rfl)))))]; exact HS0.out
        have HB := Lib.hid hb
        clear hvis hinv hu RA IA UA hrange
        go_wp2_with (at_next; refine wpList_next_at rfl _ rfl rfl hr hb (fun x hx => (SS.out.2 x hx)) hsc ?_ ?_)
        · intro h0
          have VD := Lib.hid (HV.out.done h0)
          clear hr hb h0 HV HR hT hsc
          obtain ⟨w2, hw2⟩ : ∃ w2 : World, w2 = wr := ⟨_, rfl⟩
          subst hw2
          have hT2 := HT.out.upd HU.out (fun c hc h => h hc)
          have c2 := hT2.tb.at (o := 2) rfl
          cases hd : t.d with
          | none =>
            rw [hd] at c2
            clear hT2
            have HS := Lib.hid (show S.num = [] by have h0 := HT.out.nm; rw [hd] at h0; exact h0)
            go_wp2
            go_end0
            refine ⟨rfl, arrP S.arr 0 ++ vs, ?_, HI.out, HU.out⟩
            unfold pairs
            rw [HS.out]
            refine List.Perm.append_left _ ?_
            rw [← HES.out]
            simpa [entP] using VD.out
          | some D =>
            rw [hd] at c2
            obtain ⟨eD, cD, hmd, hed⟩ : ∃ e c, w0.heap[D]? = some (.map e c) ∧ e.toList = S.num := by
              have h0 := HT.out.nm
              rw [hd] at h0
              exact h0
            have SD := Lib.hid (HT.out.sn D hd eD cD hmd)
            have NDD := Lib.hid (HT.out.sn D hd eD cD hmd).1
            have HED := Lib.hid hed
            have HD0 := Lib.hid hmd
            obtain ⟨us, hus⟩ : ∃ us, us = vs := ⟨_, rfl⟩
            subst hus
            have VS := Lib.hid VD.out
            obtain ⟨w1, hw1⟩ : ∃ w1 : World, w1 = w2 := ⟨_, rfl⟩
            subst hw1
            have hb1 : w1.heap[D]? = some (.map eD cD) := by rw [HU.out.block D (Array.getElem?_eq_some_iff.1 hmd).1 (fun h => h (.inr (.inr (.inl hd))))]; exact hmd
            have HU1 := Lib.hid HU.out
            clear VD HU hT2 hmd hed
            obtain ⟨r, hrr⟩ : ∃ r, r = w1.heap.size := ⟨_, rfl⟩
            have hrange := run_range_map w1 85 _ _ D eD cD Tryz.underlying85 hb1
            rw [← hrr] at hrange
            obtain ⟨wa, hwa⟩ : ∃ wa, wa = w1.alloc (.mapIter (some D) cD #[] cD) := ⟨_, rfl⟩
            rw [← hwa] at hrange
            have hia : wa.heap[r]? = some (.mapIter (some D) cD #[] cD) := by rw [hwa, hrr]; exact heap_alloc_new _ _
            have hua : Upd (fun _ => False) w1 wa := by rw [hwa]; exact (Upd.refl _ _).alloc _
            have IA := Lib.hid (HST.out _ _ _ HI.out (hua.mono (fun _ _ h => h.elim)))
            have UA := Lib.hid (HU1.out.trans (hua.mono (fun _ _ h => h.elim)))
            have RA := Lib.hid hia
            have RG := Lib.hid (show w0.heap.size ≤ r by rw [hrr]; exact HU1.out.size)
            have RF := Lib.hid (show ¬ Fp t r from fun h => by have := (HT.out.upd HU1.out (fun c hc h => h hc)).lt h; omega)
            clear hua hia hwa HI hrr
            go_wp2
            go_loopw [9] (fun _ wr => ∃ (seen : Array Nat) (cc : Nat) (vs : List Pair), wr.heap[r]? = some (.mapIter (some D) cD seen cc) ∧ cD ≤ cc ∧ Vis (fun k => k) eD seen vs ∧ Inv ((arrP S.arr 0 ++ us) ++ vs) wr ∧ Upd (fun c => ¬ Fp t c) w0 wr) (fun _ wr => wr.rangeLeft D r)
            case atStart => exact ⟨#[], cD, [], RA.out, Nat.le_refl _, vis_start _ _, by rw [List.append_nil]; exact IA.out, UA.out⟩
            case round =>
              obtain ⟨seen, cc, vs, hr, hsc, hvis, hinv, hu⟩ := hrel
              have HV := Lib.hid hvis
              have HI := Lib.hid hinv
              have HU := Lib.hid hu
              have HR := Lib.hid hr
              have hT := HT.out.upd HU.out (fun c hc h => h hc)
              have hb := show wr.heap[D]? = some (.map eD cD) by rw [HU.out.block D (Array.getElem?_eq_some_iff.1 HD0.out).1 (fun h => h (.inr (.inr (.inl hd))))]; exact HD0.out
              have HB := Lib.hid hb
              clear hvis hinv hu RA IA UA hrange
              go_wp2_with (at_next; refine wpList_next_at rfl _ rfl rfl hr hb (fun x hx => (SD.out.2 x hx)) hsc ?_ ?_)
              · intro h0
                have VD := Lib.hid (HV.out.done h0)
                clear hr hb h0 HV HR hT hsc
                obtain ⟨w2, hw2⟩ : ∃ w2 : World, w2 = wr := ⟨_, rfl⟩
                subst hw2
                go_wp2
                go_end0
                refine ⟨rfl, (arrP S.arr 0 ++ us) ++ vs, ?_, HI.out, HU.out⟩
                unfold pairs
                rw [List.append_assoc]
                refine List.Perm.append_left _ ?_
                rw [← HES.out, ← HED.out]
                exact List.Perm.append VS.out VD.out
              · intro e wn hcome
                obtain ⟨he, hal⟩ := hcome
                have hem := (mem_left he).1
                obtain ⟨ek, ev, eb⟩ := e
                have hnv : NV ev := HNN.out _ (by rw [← HED.out]; exact hem)
                have hkk : isKey ek := (HT.out.fn.keys _ (by rw [← HED.out]; exact hem)).1
                obtain ⟨W, hW⟩ : ∃ W, W = setBlock wn r (.mapIter (some D) cD (seen.push eb) cD) := ⟨_, rfl⟩
                obtain ⟨u1, hrW⟩ := upd_setBlock hr hal (.mapIter (some D) cD (seen.push eb) cD)
                rw [← hW] at u1 hrW
                have hbW : W.heap[D]? = some (.map eD cD) := by
                  rw [u1.block _ (Array.getElem?_eq_some_iff.1 hb).1 (fun e => by rw [e, hr] at hb; cases hb)]
                  exact hb
                have hen := run_entry_at (P := Tryz.prog) W r D cD seen eD cD _ hrW hbW hem NDD.out
                have uW : Upd (fun c => ¬ Fp t c) wr W := u1.mono (fun c _ hc hf => RF.out (by rw [← hc]; exact hf))
                have IW := Lib.hid (HST.out _ _ _ HI.out (u1.mono (fun c _ hc => ⟨by rw [hc]; exact RG.out, by rw [hc]; exact ⟨_, _, _, _, hr⟩⟩)))
                have UW := Lib.hid (HU.out.trans uW)
                have RW := Lib.hid hrW
                have BW := Lib.hid hbW
                have HE := Lib.hid he
                have HM := Lib.hid hem
                have ML := Lib.hid (show W.rangeLeft D r < wr.rangeLeft D r by
                  rw [rangeLeft_eq hbW hrW, rangeLeft_eq hb hr]
                  exact left_shrinks eD seen _ he)
                have RL := Lib.hid (rangeLeft_eq hbW hrW)
                show wpList _ _ _ _ _ (setBlock wn r (.mapIter (some D) cD (seen.push eb) cD))
                rw [← hW]
                clear hr hb hT u1 hrW hbW uW hem hal hW he hsc
                rcases hnv with rfl | ⟨b, rfl⟩
                · unfold nilw at hen ⊢
                  go_wp2
                  go_roundw
                  case rel => exact ⟨seen.push eb, cD, vs, RW.out, Nat.le_refl _, HV.out.dead NDD.out HE.out nilw_nil, IW.out, UW.out⟩
                  case measure => exact ML.out
                · have C : Calls Tryz.prog 54 #[ek, .iface 53 (.float .f64 b), x0, x1, x2, x3, x4, x5, x6, x7, x8, x9, x10, x11, x12, x13] W fun e w' => e = .returned (.tuple #[]) ∧ Inv (((arrP S.arr 0 ++ us) ++ vs) ++ [(ek, numv b)]) w' ∧ Upd (Cbs t W) W w' := HCB.out ((arrP S.arr 0 ++ us) ++ vs) (ek, numv b) W (List.mem_append.2 (.inr (List.mem_append.2 (.inr (mem_entP.2 ⟨_, by rw [← HED.out]; exact HM.out, rfl, numv_nil b⟩))))) (by
                    have h1 := HV.out.lt HE.out (numv_nil b)
                    rw [HED.out] at h1
                    have h2 := VS.out.length_eq
                    rw [HES.out] at h2
                    unfold pairs
                    simp only [List.length_append] at h2 ⊢
                    omega) IW.out
                  have CC := Lib.hid C
                  clear C
                  try unfold numv at hen
                  try unfold numv
                  go_wp2_with fail
                  refine CC.out.mono ?_
                  rintro e w3 ⟨rfl, hi3, hu3⟩
                  have I3 := Lib.hid hi3
                  have U3 := Lib.hid hu3
                  clear hi3 hu3 CC hen
                  have hr3 : w3.heap[r]? = some (.mapIter (some D) cD (seen.push eb) cD) := by
                    rw [U3.out.block r (Array.getElem?_eq_some_iff.1 RW.out).1 (fun h => h.2 _ _ _ _ RW.out)]
                    exact RW.out
                  have u3 : Upd (fun c => ¬ Fp t c) w0 w3 := UW.out.trans (U3.out.mono (fun c _ h => h.1))
                  have hb3 : w3.heap[D]? = some (.map eD cD) := by
                    rw [U3.out.block _ (Array.getElem?_eq_some_iff.1 BW.out).1 (fun h => h.1 (.inr (.inr (.inl hd))))]
                    exact BW.out
                  have R3 := Lib.hid hr3
                  have UU3 := Lib.hid u3
                  have M3 := Lib.hid (show w3.rangeLeft D r < wr.rangeLeft D r by rw [rangeLeft_eq hb3 hr3, ← RL.out]; exact ML.out)
                  clear hr3 u3 hb3
                  go_wp2
                  go_roundw
                  case rel => exact ⟨seen.push eb, cD, vs ++ [(ek, numv b)], R3.out, Nat.le_refl _, HV.out.live NDD.out HE.out (numv_nil b), by rw [← List.append_assoc]; exact I3.out, UU3.out⟩
                  case measure => exact M3.out
        · intro e wn hcome
          obtain ⟨he, hal⟩ := hcome
          have hem := (mem_left he).1
          obtain ⟨ek, ev, eb⟩ := e
          have hnv : NV ev := HNS.out _ (by rw [← HES.out]; exact hem)
          obtain ⟨s, hs⟩ := (HT.out.fs.keys _ (by rw [← HES.out]; exact hem)).1
          have hs : ek = .string s := hs
          subst hs
          obtain ⟨W, hW⟩ : ∃ W, W = setBlock wn r (.mapIter (some t.s) cS (seen.push eb) cS) := ⟨_, rfl⟩
          obtain ⟨u1, hrW⟩ := upd_setBlock hr hal (.mapIter (some t.s) cS (seen.push eb) cS)
          rw [← hW] at u1 hrW
          have hbW : W.heap[t.s]? = some (.map eS cS) := by
            rw [u1.block _ (Array.getElem?_eq_some_iff.1 hb).1 (fun e => by rw [e, hr] at hb; cases hb)]
            exact hb
          have hen := run_entry_at (P := Tryz.prog) W r t.s cS seen eS cS _ hrW hbW hem NDP.out
          have uW : Upd (fun c => ¬ Fp t c) wr W := u1.mono (fun c _ hc hf => RF.out (by rw [← hc]; exact hf))
          have IW := Lib.hid (HST.out _ _ _ HI.out (u1.mono (fun c _ hc => ⟨by rw [hc]; exact RG.out, by rw [hc]; exact ⟨_, _, _, _, hr⟩⟩)))
          have UW := Lib.hid (HU.out.trans uW)
          have RW := Lib.hid hrW
          have BW := Lib.hid hbW
          have HE := Lib.hid he
          have HM := Lib.hid hem
          have ML := Lib.hid (show W.rangeLeft t.s r < wr.rangeLeft t.s r by
            rw [rangeLeft_eq hbW hrW, rangeLeft_eq hb hr]
            exact left_shrinks eS seen _ he)
          have RL := Lib.hid (rangeLeft_eq hbW hrW)
          show wpList _ _ _ _ _ (setBlock wn r (.mapIter (some t.s) cS (seen.push eb) cS))
          rw [← hW]
          clear hr hb hT u1 hrW hbW uW hem hal hW he hsc
          rcases hnv with rfl | ⟨b, rfl⟩
          · unfold nilw at hen ⊢
            go_wp2
            go_roundw
            case rel => exact ⟨seen.push eb, cS, vs, RW.out, Nat.le_refl _, HV.out.dead NDP.out HE.out nilw_nil, IW.out, UW.out⟩
            case measure => exact ML.out
          · have C : Calls Tryz.prog 54 #[.iface 78 (.string s), .iface 53 (.float .f64 b), x0, x1, x2, x3, x4, x5, x6, x7, x8, x9, x10, x11, x12, x13] W fun e w' => e = .returned (.tuple #[]) ∧ Inv ((arrP S.arr 0 ++ vs) ++ [(.iface 78 (.string s), numv b)]) w' ∧ Upd (Cbs t W) W w' := HCB.out (arrP S.arr 0 ++ vs) (.iface 78 (.string s), numv b) W (List.mem_append.2 (.inr (List.mem_append.2 (.inl (mem_entP.2 ⟨_, by rw [← HES.out]; exact HM.out, rfl, numv_nil b⟩))))) (by
              have h1 := HV.out.lt HE.out (numv_nil b)
              rw [HES.out] at h1
              unfold pairs
              simp only [List.length_append]
              omega) IW.out
            have CC := Lib.hid C
            clear C
            try unfold numv at hen
            try unfold numv
            go_wp2_with fail
            refine CC.out.mono ?_
            rintro e w3 ⟨rfl, hi3, hu3⟩
            have I3 := Lib.hid hi3
            have U3 := Lib.hid hu3
            clear hi3 hu3 CC hen
            have hr3 : w3.heap[r]? = some (.mapIter (some t.s) cS (seen.push eb) cS) := by
              rw [U3.out.block r (Array.getElem?_eq_some_iff.1 RW.out).1 (fun h => h.2 _ _ _ _ RW.out)]
              exact RW.out
            have u3 : Upd (fun c => ¬ Fp t c) w0 w3 := UW.out.trans (U3.out.mono (fun c _ h => h.1))
            have hb3 : w3.heap[t.s]? = some (.map eS cS) := by
              rw [U3.out.block _ (Array.getElem?_eq_some_iff.1 BW.out).1 (fun h => h.1 (.inr (.inr (.inr (.inl rfl)))))]
              exact BW.out
            have R3 := Lib.hid hr3
            have UU3 := Lib.hid u3
            have M3 := Lib.hid (show w3.rangeLeft t.s r < wr.rangeLeft t.s r by rw [rangeLeft_eq hb3 hr3, ← RL.out]; exact ML.out)
            clear hr3 u3 hb3
            go_wp2
            go_roundw
            case rel => exact ⟨seen.push eb, cS, vs ++ [(.iface 78 (.string s), numv b)], R3.out, Nat.le_refl _, HV.out.live NDP.out HE.out (numv_nil b), by rw [← List.append_assoc]; exact I3.out, UU3.out⟩
            case measure => exact M3.out

set_option maxHeartbeats 800000 in
theorem l_for_each_14 (L : Option Addr) (x0 x1 x2 x3 x4 x5 x6 x7 x8 x9 x10 x11 x12 x13 : Value) (T : Nat) (w0 : World) (Q : World → Prop) (C : Calls Tryz.prog 73 #[.pointer (some ⟨T, 0, none⟩), .func (.func 54) #[] #[x0, x1, x2, x3, x4, x5, x6, x7, x8, x9, x10, x11, x12, x13]] w0 fun e w' => e = .returned (.tuple #[]) ∧ Q w') :
    Calls Tryz.prog 53 #[.pointer L, .pointer (some ⟨T, 0, none⟩), .func (.func 54) #[] #[x0, x1, x2, x3, x4, x5, x6, x7, x8, x9, x10, x11, x12, x13]] w0 fun e w' => e = .returned (.tuple #[]) ∧ Q w' := by
  have CC := Lib.hid C
  clear C
  go_enter Tryz.func53, Tryz.ntmps53
  go_wp2_with fail
  refine CC.out.mono ?_
  rintro e w' ⟨rfl, hq⟩
  have HQ := Lib.hid hq
  clear hq CC
  go_wp2
  go_end0
  exact ⟨rfl, HQ.out⟩
end Go.Proofs.YtlmadbgpllokfaaGreatFmt
