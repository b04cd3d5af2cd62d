import Derived.Test.Qxb6602948aMn
namespace Go.Proofs.Qxb6602948a
open Go.RowKit Go.Kx Go.Uf Go.Maps
set_option linter.unusedVariables false

set_option maxRecDepth 100000 in
set_option maxHeartbeats 4000000 in
theorem model_any (lo n items : Nat) (imp : Bool) (a3 : Option Addr) (c3 : Nat) (a4 : Option Addr) (M c4 : Nat) (a6 : Option Addr) (c6 : Nat) (a7 : Option Addr) (N c7 : Nat) (rS rI wS wI : Nat → Int) (w : World)
    (r3 : Rw w a3 (n + 1) c3 (ints .i64 rS)) (r4 : Rw w a4 M c4 (ints .i32 rI)) (r6 : Rw w a6 (n + 1) c6 (ints .i64 wS)) (r7 : Rw w a7 N c7 (ints .i32 wI))
    (hf : Fine n items M N rS rI wS wI) (hlo0 : imp = false → lo = 0) (hlo1 : imp = true → lo = 1) :
    Calls Try.prog 20 #[.int .i64 n, .int .i64 items, .bool imp, .slice a3 (n + 1) c3, .slice a4 M c4, .slice a6 (n + 1) c6, .slice a7 N c7] w fun e w' => CompPost rS rI wS wI lo n w e w' := by
  have ln := hf.ln
  have li := hf.li
  have lM := hf.lM
  have lN := hf.lN
  have hm41 := mk41 items li
  have hm22 := mk22n n (by omega)
  have hm24 := mk24n items li
  have T3 : Hid (Rw w a3 (n + 1) c3 (ints .i64 rS)) := r3
  have T4 : Hid (Rw w a4 M c4 (ints .i32 rI)) := r4
  have T6 : Hid (Rw w a6 (n + 1) c6 (ints .i64 wS)) := r6
  have T7 : Hid (Rw w a7 N c7 (ints .i32 wI)) := r7
  have HF : Hid (Fine n items M N rS rI wS wI) := hf
  obtain ⟨i3, hi3, hx0, hx1, hx2⟩ := info_parts info3
  clear r3 r4 r6 r7 hf
  obtain ⟨b3, o3, rfl, l3, _⟩ := T3.out.plain (by omega)
  obtain ⟨b6, o6, rfl, l6, _⟩ := T6.out.plain (by omega)
  have hlo : lo ≤ 1 := by
    cases imp
    · have := hlo0 rfl; omega
    · have := hlo1 rfl; omega
  go_enter Try.func20, Try.ntmps20
  go_upto_if 33 with fail
  go_cut [15] (fun v wc => v = .int .i64 (lo : Nat) ∧ wc = w)
  case first =>
    cases imp
    · obtain rfl := hlo0 rfl
      go_wp2
      go_meet
      case rel => exact ⟨rfl, rfl⟩
    · obtain rfl := hlo1 rfl
      go_wp2
      go_meet
      case rel => exact ⟨rfl, rfl⟩
  case rest =>
  obtain ⟨rfl, hwc⟩ := hcut
  obtain rfl : w = wc := hwc.symm
  clear hlo0 hlo1
  have C3 : Hid (∀ wr, Below w.heap.size w wr → ∀ j, j < n + 1 → wr.cell? ⟨b3, o3 + j, none⟩ = some (.int .i64 (rS j))) := fun wr hb j hj => by
    obtain ⟨b, o, he, _, c⟩ := (T3.out.later hb).plain (by omega)
    simp at he
    rw [he.1, he.2]; exact c j hj
  have C6 : Hid (∀ wr, Below w.heap.size w wr → ∀ j, j < n + 1 → wr.cell? ⟨b6, o6 + j, none⟩ = some (.int .i64 (wS j))) := fun wr hb j hj => by
    obtain ⟨b, o, he, _, c⟩ := (T6.out.later hb).plain (by omega)
    simp at he
    rw [he.1, he.2]; exact c j hj
  clear T3 T6
  go_wp2
  clear hm41
  go_loopw [17] (fun s wr => ∃ (j : Nat) (us : Nat → Value), j ≤ n - lo ∧ s = .int .i64 ((lo + j : Nat) : Int) ∧ Uw w wr items (uUp rS rI wS wI items lo j) us) (fun s _ => n - (intOf s).toNat)
  case atStart => exact ⟨0, _, Nat.zero_le _, rfl, Uw.start w items li⟩
  case round =>
  obtain ⟨j, us, hj, rfl, huw⟩ := hrel
  obtain ⟨wa, hwa⟩ : ∃ wa, wa = wr := ⟨_, rfl⟩
  subst hwa
  obtain ⟨g, hg⟩ : ∃ g, g = uUp rS rI wS wI items lo j := ⟨_, rfl⟩
  rw [← hg] at huw
  obtain ⟨t, ht⟩ : ∃ t, t = lo + j := ⟨_, rfl⟩
  rw [← ht]
  have HG : Hid (g = uUp rS rI wS wI items lo j) := hg
  have HT : Hid (t = lo + j) := ht
  have HW : Hid (Uw w wa items g us) := huw
  clear huw hg ht
  by_cases hlt : t < n
  · obtain ⟨rlo, nr, re1, re2, re3⟩ := HF.out.rs.at' hlt
    obtain ⟨wlo, nw, we1, we2, we3⟩ := HF.out.ws.at' hlt
    have kt : (t : Int) < (n : Int) := by omega
    have RE : Hid (rS t = (rlo : Int) ∧ rS (t + 1) = ((rlo + nr : Nat) : Int) ∧ wS t = (wlo : Int) ∧ wS (t + 1) = ((wlo + nw : Nat) : Int)) := ⟨re1, re2, we1, we2⟩
    have d3 : wa.cell? ⟨b3, o3 + t, none⟩ = some (.int .i64 (rlo : Int)) := by rw [C3.out wa HW.out.bel t (by omega), re1]
    have GL : Hid (∀ x, (gl g x).length ≤ rlo + wlo) := fun x => by
      have := uUp_len HF.out lo x j (by have := HT.out; omega)
      rw [← HG.out, ← HT.out, re1, we1] at this
      omega
    have GN : Hid (g.length = items) := HW.out.len
    clear re1 re2 we1 we2
    go_wp2
    go_loopw [18] (fun s wr => ∃ (k : Nat) (us : Nat → Value), k ≤ nr ∧ s = .int .i64 ((rlo + k : Nat) : Int) ∧ Uw w wr items (addN (fun k => (rI (rlo + k)).toNat) t k g) us) (fun s _ => (rlo + nr) - (intOf s).toNat)
    case atStart => exact ⟨0, us, Nat.zero_le _, rfl, HW.out⟩
    case round =>
    clear d3 HW us
    obtain ⟨k, us, hk, rfl, huw⟩ := hrel
    obtain ⟨wk, hwk⟩ : ∃ wk, wk = wr := ⟨_, rfl⟩
    subst hwk
    obtain ⟨gk, hgk⟩ : ∃ gk, gk = addN (fun k => (rI (rlo + k)).toNat) t k g := ⟨_, rfl⟩
    rw [← hgk] at huw
    have HGK : Hid (gk = addN (fun k => (rI (rlo + k)).toNat) t k g) := hgk
    have HW : Hid (Uw w wk items gk us) := huw
    clear hgk huw
    have e3 : wk.cell? ⟨b3, o3 + (t + 1), none⟩ = some (.int .i64 ((rlo + nr : Nat) : Int)) := by rw [C3.out wk HW.out.bel (t + 1) (by omega), RE.out.2.1]
    by_cases hlt2 : k < nr
    · obtain ⟨b4, o4, ea, _, c4⟩ := (T4.out.later HW.out.bel).plain (by omega)
      obtain ⟨x, hx⟩ := Int.eq_ofNat_of_zero_le (HF.out.ri (rlo + k) (by omega)).1
      have hxm := (HF.out.ri (rlo + k) (by omega)).2
      rw [hx] at hxm
      have d4 : wk.cell? ⟨b4, o4 + (rlo + k), none⟩ = some (.int .i32 (x : Int)) := by rw [c4 (rlo + k) (by omega)]; show some (Value.int .i32 (rI (rlo + k))) = _; rw [hx]
      have HX : Hid (rI (rlo + k) = (x : Int)) := hx
      clear c4 hx
      subst ea
      have k1 : (rlo : Int) + (k : Int) < (rlo : Int) + (nr : Int) := by omega
      have k2 : (rlo : Int) + (k : Int) < (M : Int) := by omega
      have hxi : x < items := by omega
      have hin := HW.out.gp.inner x (by rw [HW.out.len]; exact hxi)
      have hcx := HW.out.cell hxi
      have hll : (gl gk x).length ≤ 65536 := by
        have h1 := addN_len (f := fun k => (rI (rlo + k)).toNat) (t := t) (g := g) x k (fun i hi => by have := HF.out.ri (rlo + i) (by omega); have := GN.out; skip; omega)
        rw [← HGK.out] at h1
        have h2 := GL.out x
        omega
      obtain ⟨au, cu, hu⟩ := ownsRow_shape hin
      rw [hu] at hin hcx
      have HU : Hid (us x = .slice au (gl gk x).length cu) := hu
      have HIN : Hid (wk.ownsRow w.heap.size 3 1 (.slice au (gl gk x).length cu) (gl gk x).length ((gl gk x).map natv)) := hin
      have hws : w.heap.size ≤ wk.heap.size := HW.out.bel.size
      clear hu hin
      go_wp2_with (at_builtin; refine wpList_append_own_at _ rfl (.tmp 65) (.tmp 67) 22 rfl w.heap.size 3 i3 (.int .i64 0) 1 8 Try.underlying22 hi3 hx0 hx1 hx2 rfl (by decide) _ _ _ rfl (HIN.out.alloc _) ⟨wk.heap.size, 0, none⟩ 1 1 [.int .i64 ((t : Nat) : Int)] rfl rfl ?d1 ?d2 ?d3 ?d4 ?d5 ?_)
      case d1 => exact cell_one_new _ _ _
      case d2 => intro u hu; simp at hu; subst hu; rfl
      case d3 => unfold maxLen; omega
      case d4 => omega
      case d5 => simp; omega
      intro u9 w9 hown9 hg9 _ hloc9
      have hg9' : (wk.alloc (.cells #[.int .i64 ((t : Nat) : Int)] 3)).grownBy w9 (us x).ownBlock := by rw [HU.out]; exact hg9
      have hloc9' : u9.ownBlock = (us x).ownBlock ∨ u9.ownBlock = some (wk.alloc (.cells #[.int .i64 ((t : Nat) : Int)] 3)).heap.size := by rw [HU.out, World.size_alloc]; exact hloc9
      obtain ⟨a9, c9, hu9⟩ := ownsRow_shape hown9
      subst hu9
      have U9 : Hid (Uw w (w9.setCell ⟨w.heap.size, x, none⟩ (.slice a9 ((gl gk x).length + 1) c9)) items (addTo gk x t) (upd us x (.slice a9 ((gl gk x).length + 1) c9))) := HW.out.push hxi hown9 hg9' hloc9'
      have co9 := (HW.out.out9 hxi hg9').1
      have fo9 := (HW.out.out9 hxi hg9').2
      clear hown9 hg9 hg9' hloc9 hloc9' hcx
      go_wp2
      go_roundw
      case rel =>
        refine ⟨k + 1, upd us x (.slice a9 ((gl gk x).length + 1) c9), by omega, by go_num, ?_⟩
        have e : addN (fun k => (rI (rlo + k)).toNat) t (k + 1) g = addTo gk x t := by
          show addTo (addN (fun k => (rI (rlo + k)).toNat) t k g) (rI (rlo + k)).toNat t = _
          rw [← HGK.out, HX.out]; rfl
        rw [e]; exact U9.out
      case measure => simp [intOf]; omega
    · obtain rfl : nr = k := by omega
      have k1 : ¬ ((rlo : Int) + (nr : Int) < (rlo : Int) + (nr : Int)) := by omega
      have d3 : wk.cell? ⟨b6, o6 + t, none⟩ = some (.int .i64 (wlo : Int)) := by rw [C6.out wk HW.out.bel t (by omega), RE.out.2.2.1]
      have GL2 : Hid (∀ x, (gl gk x).length ≤ rlo + wlo + nr) := fun x => by
        have h1 := addN_len (f := fun k => (rI (rlo + k)).toNat) (t := t) (g := g) x nr (fun i hi => by have := HF.out.ri (rlo + i) (by omega); have := GN.out; omega)
        rw [← HGK.out] at h1
        have h2 := GL.out x
        omega
      have GN2 : Hid (gk.length = items) := HW.out.len
      obtain ⟨g2, hg2⟩ : ∃ g2, g2 = gk := ⟨_, rfl⟩
      rw [← hg2] at HW GL2 GN2 HGK
      clear GL GN hg2
      have GL := GL2
      have GN := GN2
      have HGR := HGK
      clear GL2 GN2 HGK
      go_wp2
      go_loopw [20] (fun s wr => ∃ (k : Nat) (us : Nat → Value), k ≤ nw ∧ s = .int .i64 ((wlo + k : Nat) : Int) ∧ Uw w wr items (addN (fun k => (wI (wlo + k)).toNat) t k g2) us) (fun s _ => (wlo + nw) - (intOf s).toNat)
      case atStart => exact ⟨0, us, Nat.zero_le _, rfl, HW.out⟩
      case round =>
      clear d3 HW us
      obtain ⟨k, us, hk, rfl, huw⟩ := hrel
      obtain ⟨wk, hwk⟩ : ∃ wk, wk = wr := ⟨_, rfl⟩
      subst hwk
      obtain ⟨gk, hgk⟩ : ∃ gk, gk = addN (fun k => (wI (wlo + k)).toNat) t k g2 := ⟨_, rfl⟩
      rw [← hgk] at huw
      have HGK : Hid (gk = addN (fun k => (wI (wlo + k)).toNat) t k g2) := hgk
      have HW : Hid (Uw w wk items gk us) := huw
      clear hgk huw
      have e3 : wk.cell? ⟨b6, o6 + (t + 1), none⟩ = some (.int .i64 ((wlo + nw : Nat) : Int)) := by rw [C6.out wk HW.out.bel (t + 1) (by omega), RE.out.2.2.2]
      by_cases hlt2 : k < nw
      · obtain ⟨b4, o4, ea, _, c4⟩ := (T7.out.later HW.out.bel).plain (by omega)
        obtain ⟨x, hx⟩ := Int.eq_ofNat_of_zero_le (HF.out.wi (wlo + k) (by omega)).1
        have hxm := (HF.out.wi (wlo + k) (by omega)).2
        rw [hx] at hxm
        have d4 : wk.cell? ⟨b4, o4 + (wlo + k), none⟩ = some (.int .i32 (x : Int)) := by rw [c4 (wlo + k) (by omega)]; show some (Value.int .i32 (wI (wlo + k))) = _; rw [hx]
        have HX : Hid (wI (wlo + k) = (x : Int)) := hx
        clear c4 hx
        subst ea
        have k1 : (wlo : Int) + (k : Int) < (wlo : Int) + (nw : Int) := by omega
        have k2 : (wlo : Int) + (k : Int) < (N : Int) := by omega
        have hxi : x < items := by omega
        have hin := HW.out.gp.inner x (by rw [HW.out.len]; exact hxi)
        have hcx := HW.out.cell hxi
        have hll : (gl gk x).length ≤ 65536 := by
          have h1 := addN_len (f := fun k => (wI (wlo + k)).toNat) (t := t) (g := g2) x k (fun i hi => by have := HF.out.wi (wlo + i) (by omega); have := GN.out; skip; omega)
          rw [← HGK.out] at h1
          have h2 := GL.out x
          omega
        obtain ⟨au, cu, hu⟩ := ownsRow_shape hin
        rw [hu] at hin hcx
        have HU : Hid (us x = .slice au (gl gk x).length cu) := hu
        have HIN : Hid (wk.ownsRow w.heap.size 3 1 (.slice au (gl gk x).length cu) (gl gk x).length ((gl gk x).map natv)) := hin
        have hws : w.heap.size ≤ wk.heap.size := HW.out.bel.size
        clear hu hin
        go_wp2_with (at_builtin; refine wpList_append_own_at _ rfl (.tmp 93) (.tmp 95) 22 rfl w.heap.size 3 i3 (.int .i64 0) 1 8 Try.underlying22 hi3 hx0 hx1 hx2 rfl (by decide) _ _ _ rfl (HIN.out.alloc _) ⟨wk.heap.size, 0, none⟩ 1 1 [.int .i64 ((t : Nat) : Int)] rfl rfl ?d1 ?d2 ?d3 ?d4 ?d5 ?_)
        case d1 => exact cell_one_new _ _ _
        case d2 => intro u hu; simp at hu; subst hu; rfl
        case d3 => unfold maxLen; omega
        case d4 => omega
        case d5 => simp; omega
        intro u9 w9 hown9 hg9 _ hloc9
        have hg9' : (wk.alloc (.cells #[.int .i64 ((t : Nat) : Int)] 3)).grownBy w9 (us x).ownBlock := by rw [HU.out]; exact hg9
        have hloc9' : u9.ownBlock = (us x).ownBlock ∨ u9.ownBlock = some (wk.alloc (.cells #[.int .i64 ((t : Nat) : Int)] 3)).heap.size := by rw [HU.out, World.size_alloc]; exact hloc9
        obtain ⟨a9, c9, hu9⟩ := ownsRow_shape hown9
        subst hu9
        have U9 : Hid (Uw w (w9.setCell ⟨w.heap.size, x, none⟩ (.slice a9 ((gl gk x).length + 1) c9)) items (addTo gk x t) (upd us x (.slice a9 ((gl gk x).length + 1) c9))) := HW.out.push hxi hown9 hg9' hloc9'
        have co9 := (HW.out.out9 hxi hg9').1
        have fo9 := (HW.out.out9 hxi hg9').2
        clear hown9 hg9 hg9' hloc9 hloc9' hcx
        go_wp2
        go_roundw
        case rel =>
          refine ⟨k + 1, upd us x (.slice a9 ((gl gk x).length + 1) c9), by omega, by go_num, ?_⟩
          have e : addN (fun k => (wI (wlo + k)).toNat) t (k + 1) g2 = addTo gk x t := by
            show addTo (addN (fun k => (wI (wlo + k)).toNat) t k g2) (wI (wlo + k)).toNat t = _
            rw [← HGK.out, HX.out]; rfl
          rw [e]; exact U9.out
        case measure => simp [intOf]; omega
      · obtain rfl : nw = k := by omega
        have k1 : ¬ ((wlo : Int) + (nw : Int) < (wlo : Int) + (nw : Int)) := by omega
        go_wp2
        go_roundw
        case rel =>
          refine ⟨j + 1, us, by have := HT.out; omega, by have := HT.out; rw [show ((lo + (j + 1) : Nat) : Int) = (t : Int) + 1 by omega], ?_⟩
          have e : uUp rS rI wS wI items lo (j + 1) = gk := by
            show utxn rS rI wS wI (lo + j) (uUp rS rI wS wI items lo j) = _
            rw [← HT.out, ← HG.out, utxn_eq RE.out.1 RE.out.2.1 RE.out.2.2.1 RE.out.2.2.2, HGK.out, HGR.out]
          rw [e]; exact HW.out
        case measure => simp [intOf]; omega
  · obtain rfl : j = n - lo := by have := HT.out; omega
    have hno : ¬ ((t : Int) < (n : Int)) := by omega
    obtain ⟨κ, hκ⟩ : ∃ κ, κ = kap rS rI wS wI lo n := ⟨_, rfl⟩
    have HK : Hid (κ = kap rS rI wS wI lo n) := hκ
    have UO : Hid (UsOk wa w.heap.size items (fun x => gl g x)) := HW.out.ok
    have UL : Hid (w.heap.size < wa.heap.size) := (HW.out.gp.outer.lt w.heap.size rfl).2
    have BA : Hid (Below w.heap.size w wa) := HW.out.bel
    clear hκ HT HW hlt hj
    clear us
    go_wp2
    clear hm22 hno
    go_loopw [23] (fun s wr => ∃ k : Nat, k ≤ n ∧ s = .int .i64 k ∧ Blk wr wa.heap.size (rowOf (ints .i64 (fun j => if j < k then -1 else 0)) n) 3 ∧ wr.heap.size = wa.heap.size + 1 ∧ Below wa.heap.size wa wr) (fun s _ => n - (intOf s).toNat)
    case atStart => exact ⟨0, Nat.zero_le _, rfl, (Blk.new wa _ 3).congr (rowOf_congr (fun j _ => by simp)), by simp, below_alloc (Below.refl _ _) _⟩
    case round =>
    obtain ⟨k, hk, rfl, hc, hsz, hb⟩ := hrel
    by_cases hltk : k < n
    · have c1 := (hc.cell k).trans (rowOf_get _ hltk)
      have f1 := hc.free k
      have k1 : (k : Int) < (n : Int) := by omega
      go_wp2
      go_roundw
      case rel =>
        refine ⟨k + 1, by omega, by go_num, (hc.set k _).congr ?_, by simpa using hsz, hb.setCell (Nat.le_refl _) _⟩
        rw [rowOf_set]
        apply rowOf_congr
        intro j _
        by_cases e : j = k
        · subst e; simp [upd]
        · by_cases e2 : j < k
          · simp [upd, e, e2, show j < k + 1 by omega]
          · simp [upd, e, e2, show ¬ j < k + 1 by omega]
      case measure => simp [intOf]; omega
    · obtain ⟨wb, hwb⟩ : ∃ wb, wb = wr := ⟨_, rfl⟩
      subst hwb
      have M0 : Hid (Mn wa (wb.alloc (.cells (rowOf (fun _ => .bool false) items) 4)) n items (fun _ => -1) (fun _ => false) (.slice none 0 0) [] (fun _ => .slice none 0 0)) := Mn.start _ (hc.congr (rowOf_congr (fun j hj => by simp [show j < k by omega]))) hsz hb
      have hno : ¬ ((k : Int) < (n : Int)) := by omega
      have HSZ : Hid (wb.heap.size = wa.heap.size + 1) := hsz
      clear hc hsz hb
      go_wp2
      clear hm24 hno
      go_loopw [25, 26] (fun rv s wr => ∃ (i : Nat) (cp : Nat → Int) (sn : Nat → Bool) (us : Nat → Value) (ar : Option Addr) (cr : Nat), i ≤ n - lo ∧ s = .int .i64 ((lo + i : Nat) : Int) ∧ rv = .slice ar (resUp κ lo n i).length cr ∧ Mn wa wr n items cp sn (.slice ar (resUp κ lo n i).length cr) (resUp κ lo n i) us ∧ OI lo n (fun x => gl g x) κ (lo + i) cp sn) (fun _ s _ => n - (intOf s).toNat)
      case atStart => exact ⟨0, _, _, _, none, 0, Nat.zero_le _, rfl, rfl, M0.out, OI.start _ _ _ _⟩
      case round =>
      clear M0
      obtain ⟨i, cp, sn, us, ar, cr, hi, rfl, rfl, hmn, hoi⟩ := hrel
      obtain ⟨w1, hw1⟩ : ∃ w1, w1 = wr := ⟨_, rfl⟩
      subst hw1
      have hRl := resUp_len κ lo n i
      obtain ⟨R, hR⟩ : ∃ R, R = resUp κ lo n i := ⟨_, rfl⟩
      obtain ⟨t, ht⟩ : ∃ t, t = lo + i := ⟨_, rfl⟩
      rw [← hR] at hmn hRl ⊢
      rw [← ht] at hoi ⊢
      have HR : Hid (R = resUp κ lo n i) := hR
      have HT : Hid (t = lo + i) := ht
      have MN1 : Hid (Mn wa w1 n items cp sn (.slice ar R.length cr) R us) := hmn
      have OI1 : Hid (OI lo n (fun x => gl g x) κ t cp sn) := hoi
      clear hmn hoi hR ht
      by_cases hlt : t < n
      · have kt : (t : Int) < (n : Int) := by omega
        have hlot : lo ≤ t := by have := HT.out; omega
        have d1 : w1.cell? ⟨wa.heap.size, t, none⟩ = some (.int .i64 (cp t)) := by rw [MN1.out.c.cell, rowOf_get _ hlt]
        have f1 := MN1.out.c.free t
        have hold := OI1.out.cpI t hlot hlt
        have HOLD : Hid (0 ≤ cp t ↔ old κ lo t t) := hold
        clear hold
        by_cases hcp : 0 ≤ cp t
        · have OI2 : Hid (OI lo n (fun x => gl g x) κ (t + 1) cp sn) := OI1.out.skip hlot hlt hcp
          have HO : Hid (old κ lo t t) := HOLD.out.1 hcp
          go_wp2
          go_roundw
          case rel =>
            have e : resUp κ lo n (i + 1) = R := by rw [resUp_old (by rw [← HT.out]; exact HO.out), HR.out]
            refine ⟨i + 1, cp, sn, us, ar, cr, by have := HT.out; omega, by have := HT.out; rw [show ((lo + (i + 1) : Nat) : Int) = (t : Int) + 1 by omega], by rw [e], by rw [e]; exact MN1.out, by rw [← Nat.add_assoc, ← HT.out]; exact OI2.out⟩
          case measure => simp [intOf]; omega
        · have hneg : cp t < 0 := by omega
          have HNO : Hid (¬ old κ lo t t) := fun h => hcp (HOLD.out.2 h)
          have hlon : lo ≤ n := by omega
          have CX : Hid (Ctx lo n (fun x => gl g x) κ) := by
            show Ctx _ _ _ _
            rw [HG.out, HK.out]
            exact ctx_of hlon (fine_tf HF.out)
          have UM : Hid (∀ u x, u ∈ gl g x ↔ tc rS rI wS wI lo n u x) := by
            have := uUp_mem (lo := lo) (fine_tf HF.out) (n - lo) (by omega)
            rw [show lo + (n - lo) = n by omega, ← HG.out] at this
            exact this
          have UN : Hid (∀ x, (gl g x).length ≤ 65536) := fun x => by
            have h1 := uUp_len HF.out lo x (n - lo) (by omega)
            rw [show lo + (n - lo) = n by omega, ← HG.out] at h1
            have h2 := HF.out.rs.last
            have h3 := HF.out.ws.last
            omega
          have BZ0 := Bz.start MN1.out OI1.out hlot hlt hneg
          obtain ⟨w0, hw0⟩ : ∃ w0, w0 = (w1.setCell ⟨wa.heap.size, t, none⟩ (.int .i64 (R.length : Nat))).alloc (.cells #[.int .i64 (t : Nat)] 3) := ⟨_, rfl⟩
          have SB := start_below (t := t) MN1.out (.int .i64 (R.length : Nat)) (.cells #[.int .i64 (t : Nat)] 3)
          rw [← hw0] at BZ0 SB
          have HW0 : Hid (w0 = (w1.setCell ⟨wa.heap.size, t, none⟩ (.int .i64 (R.length : Nat))).alloc (.cells #[.int .i64 (t : Nat)] 3)) := hw0
          have BZ : Hid (Bz lo n items (fun x => gl g x) κ t wa.heap.size w0 (.slice (some ⟨w1.heap.size, 0, none⟩) 1 1) w0 (some ⟨w1.heap.size, 0, none⟩) 1 (upd cp t (R.length : Nat)) sn [t] 0) := BZ0
          have B0 : Hid (Below wa.heap.size wa w0) := SB.1
          have S0 : Hid (w0.heap.size = w1.heap.size + 1) := SB.2
          have S1 : Hid (wa.heap.size + 2 ≤ w1.heap.size) := MN1.out.sz
          clear BZ0 SB HOLD hw0 OI1
          go_wp2
          rw [← HW0.out]
          clear d1 f1 hcp hneg
          go_loopw [28, 29] (fun v s wr => ∃ (I : Nat) (aa : Option Addr) (cc : Nat) (cp : Nat → Int) (sn : Nat → Bool) (ms : List Nat), I ≤ ms.length ∧ s = .int .i64 I ∧ v = .slice aa ms.length cc ∧ Bz lo n items (fun x => gl g x) κ t wa.heap.size w0 (.slice (some ⟨w1.heap.size, 0, none⟩) 1 1) wr aa cc cp sn ms I) (fun _ s _ => n - (intOf s).toNat)
          case atStart => exact ⟨0, _, _, _, _, [t], by simp, rfl, rfl, BZ.out⟩
          case round =>
          clear BZ
          obtain ⟨I, aa, cc, cq, sq, ms, hI, rfl, rfl, hbz⟩ := hrel
          obtain ⟨w2, hw2⟩ : ∃ w2, w2 = wr := ⟨_, rfl⟩
          subst hw2
          have hml : ms.length ≤ n := hbz.bi.len
          have h1m : 0 < ms.length := List.length_pos_of_mem hbz.bi.tin
          obtain ⟨gm, rfl⟩ : ∃ gm, aa = some ⟨gm, 0, none⟩ := by
            rcases hbz.bf.m.2 with ⟨e, h0⟩ | ⟨go, cap, cur, e, _⟩
            · omega
            · simp at e; exact ⟨go, e.1⟩
          have BZ : Hid (Bz lo n items (fun x => gl g x) κ t wa.heap.size w0 (.slice (some ⟨w1.heap.size, 0, none⟩) 1 1) w2 (some ⟨gm, 0, none⟩) cc cq sq ms I) := hbz
          clear hbz
          by_cases hltI : I < ms.length
          · obtain ⟨m, hm⟩ : ∃ m, m = ms.getD I 0 := ⟨_, rfl⟩
            have hmI : ms.getD I 0 = ms[I] := by simp [List.getD, hltI]
            have dm : w2.cell? ⟨gm, I, none⟩ = some (.int .i64 (m : Nat)) := by rw [BZ.out.bf.m.cellAt I (by omega), hm, hmI]; simp [hltI]
            have hmr := BZ.out.bi.mem m (by rw [hm, hmI]; exact List.getElem_mem hltI)
            have HM : Hid (ms.getD I 0 = m) := hm.symm
            have hm1 := hmr.1
            have hm2 := hmr.2.1
            clear hm hmI hmr
            have kI : (I : Int) < (ms.length : Int) := by omega
            obtain ⟨rlo, nr, re1, re2, re3⟩ := HF.out.rs.at' hm2
            obtain ⟨wlo, nw, we1, we2, we3⟩ := HF.out.ws.at' hm2
            have RE : Hid (rS m = (rlo : Int) ∧ rS (m + 1) = ((rlo + nr : Nat) : Int) ∧ wS m = (wlo : Int) ∧ wS (m + 1) = ((wlo + nw : Nat) : Int)) := ⟨re1, re2, we1, we2⟩
            have d3 : w2.cell? ⟨b3, o3 + m, none⟩ = some (.int .i64 (rlo : Int)) := by rw [C3.out w2 (below_next BA.out (B0.out.trans BZ.out.sp.bel)) m (by omega), re1]
            clear re1 re2 we1 we2
            have km : (m : Int) < (n : Int) := by omega
            go_wp2
            go_loopw [28, 31] (fun v s wr => ∃ (k : Nat) (aa : Option Addr) (cc : Nat) (cp : Nat → Int) (sn : Nat → Bool) (ms : List Nat), k ≤ nr ∧ s = .int .i64 ((rlo + k : Nat) : Int) ∧ v = .slice aa ms.length cc ∧ Bz lo n items (fun x => gl g x) κ t wa.heap.size w0 (.slice (some ⟨w1.heap.size, 0, none⟩) 1 1) wr aa cc cp sn ms I ∧ I < ms.length ∧ ms.getD I 0 = m ∧ (∀ i, i < k → sn (rI (rlo + i)).toNat = true)) (fun _ s _ => (rlo + nr) - (intOf s).toNat)
            case atStart => exact ⟨0, _, _, _, _, _, Nat.zero_le _, rfl, rfl, BZ.out, by omega, HM.out, fun i hi => by omega⟩
            case round =>
            clear BZ HM d3
            obtain ⟨k, aa, cc, cq, sq, ms, hk, rfl, rfl, hbz, hIl, hme, hse⟩ := hrel
            obtain ⟨w3, hw3⟩ : ∃ w3, w3 = wr := ⟨_, rfl⟩
            subst hw3
            have BZ : Hid (Bz lo n items (fun x => gl g x) κ t wa.heap.size w0 (.slice (some ⟨w1.heap.size, 0, none⟩) 1 1) w3 aa cc cq sq ms I) := hbz
            have HM : Hid (ms.getD I 0 = m) := hme
            have HSE : Hid (∀ i, i < k → sq (rI (rlo + i)).toNat = true) := hse
            clear hbz hme hse
            have e3 : w3.cell? ⟨b3, o3 + (m + 1), none⟩ = some (.int .i64 ((rlo + nr : Nat) : Int)) := by rw [C3.out w3 (below_next BA.out (B0.out.trans BZ.out.sp.bel)) (m + 1) (by omega), RE.out.2.1]
            by_cases hlt2 : k < nr
            · obtain ⟨b4, o4, ea, _, c4⟩ := (T4.out.later (below_next BA.out (B0.out.trans BZ.out.sp.bel))).plain (by omega)
              obtain ⟨x, hx⟩ := Int.eq_ofNat_of_zero_le (HF.out.ri (rlo + k) (by omega)).1
              have hxm := (HF.out.ri (rlo + k) (by omega)).2
              rw [hx] at hxm
              have d4 : w3.cell? ⟨b4, o4 + (rlo + k), none⟩ = some (.int .i32 (x : Int)) := by rw [c4 (rlo + k) (by omega)]; show some (Value.int .i32 (rI (rlo + k))) = _; rw [hx]
              have HX : Hid (rI (rlo + k) = (x : Int)) := hx
              clear c4 hx
              subst ea
              have k1 : (rlo : Int) + (k : Int) < (rlo : Int) + (nr : Int) := by omega
              have k2 : (rlo : Int) + (k : Int) < (M : Int) := by omega
              have hxi : x < items := by omega
              have MX : Hid (ms.getD I 0 ∈ gl g x) := by
                show ms.getD I 0 ∈ gl g x
                rw [HM.out]
                exact (UM.out m x).2 ⟨hm1, hm2, (tf_eq RE.out.1 RE.out.2.1 RE.out.2.2.1 RE.out.2.2.2 x).2 (.inl ⟨k, hlt2, by rw [HX.out]; rfl⟩)⟩
              go_wp2_with fail
              refine (spread_any x R.length lo n items (fun x => gl g x) κ t w.heap.size wa wb.heap.size w0 (.slice (some ⟨w1.heap.size, 0, none⟩) 1 1) _ aa cc cq sq ms I CX.out BZ.out hIl hxi MX.out li ln (UN.out x) UO.out UL.out B0.out (by have := S0.out; have := S1.out; omega) HSZ.out).mono ?_
              rintro e w4 ⟨a4', c4', cp4, sn4, ms4, rfl, hbz4, hI4, hm4, hmono, hsx⟩
              have BZ4 : Hid (Bz lo n items (fun x => gl g x) κ t wa.heap.size w0 (.slice (some ⟨w1.heap.size, 0, none⟩) 1 1) w4 a4' c4' cp4 sn4 ms4 I) := hbz4
              have ME4 : Hid (ms4.getD I 0 = m) := hm4.trans HM.out
              have SE4 : Hid (∀ i, i < k + 1 → sn4 (rI (rlo + i)).toNat = true) := fun i hi => by
                by_cases e : i = k
                · subst e; rw [HX.out]; exact hsx
                · exact hmono _ (HSE.out i (by omega))
              clear hbz4 hm4 hmono hsx BZ HM HSE
              go_wp2
              go_roundw
              case rel => exact ⟨k + 1, a4', c4', cp4, sn4, ms4, by omega, by go_num, rfl, BZ4.out, hI4, ME4.out, SE4.out⟩
              case measure => simp [intOf]; omega
            · obtain rfl : nr = k := by omega
              have k1 : ¬ ((rlo : Int) + (nr : Int) < (rlo : Int) + (nr : Int)) := by omega
              have d3 : w3.cell? ⟨b6, o6 + m, none⟩ = some (.int .i64 (wlo : Int)) := by rw [C6.out w3 (below_next BA.out (B0.out.trans BZ.out.sp.bel)) m (by omega), RE.out.2.2.1]
              have HSR : Hid (∀ i, i < nr → sq (rI (rlo + i)).toNat = true) := HSE.out
              clear HSE
              go_wp2
              go_loopw [28, 32] (fun v s wr => ∃ (k : Nat) (aa : Option Addr) (cc : Nat) (cp : Nat → Int) (sn : Nat → Bool) (ms : List Nat), k ≤ nw ∧ s = .int .i64 ((wlo + k : Nat) : Int) ∧ v = .slice aa ms.length cc ∧ Bz lo n items (fun x => gl g x) κ t wa.heap.size w0 (.slice (some ⟨w1.heap.size, 0, none⟩) 1 1) wr aa cc cp sn ms I ∧ I < ms.length ∧ ms.getD I 0 = m ∧ (∀ i, i < k → sn (wI (wlo + i)).toNat = true) ∧ (∀ i, i < nr → sn (rI (rlo + i)).toNat = true)) (fun _ s _ => (wlo + nw) - (intOf s).toNat)
              case atStart => exact ⟨0, _, _, _, _, _, Nat.zero_le _, rfl, rfl, BZ.out, by omega, HM.out, fun i hi => by omega, HSR.out⟩
              case round =>
              clear BZ HM d3 HSR e3
              obtain ⟨k, aa, cc, cq, sq, ms, hk, rfl, rfl, hbz, hIl, hme, hse, hsr⟩ := hrel
              obtain ⟨w3, hw3⟩ : ∃ w3, w3 = wr := ⟨_, rfl⟩
              subst hw3
              have BZ : Hid (Bz lo n items (fun x => gl g x) κ t wa.heap.size w0 (.slice (some ⟨w1.heap.size, 0, none⟩) 1 1) w3 aa cc cq sq ms I) := hbz
              have HM : Hid (ms.getD I 0 = m) := hme
              have HSE : Hid (∀ i, i < k → sq (wI (wlo + i)).toNat = true) := hse
              have HSR : Hid (∀ i, i < nr → sq (rI (rlo + i)).toNat = true) := hsr
              clear hsr
              clear hbz hme hse
              have e3 : w3.cell? ⟨b6, o6 + (m + 1), none⟩ = some (.int .i64 ((wlo + nw : Nat) : Int)) := by rw [C6.out w3 (below_next BA.out (B0.out.trans BZ.out.sp.bel)) (m + 1) (by omega), RE.out.2.2.2]
              by_cases hlt2 : k < nw
              · obtain ⟨b4, o4, ea, _, c4⟩ := (T7.out.later (below_next BA.out (B0.out.trans BZ.out.sp.bel))).plain (by omega)
                obtain ⟨x, hx⟩ := Int.eq_ofNat_of_zero_le (HF.out.wi (wlo + k) (by omega)).1
                have hxm := (HF.out.wi (wlo + k) (by omega)).2
                rw [hx] at hxm
                have d4 : w3.cell? ⟨b4, o4 + (wlo + k), none⟩ = some (.int .i32 (x : Int)) := by rw [c4 (wlo + k) (by omega)]; show some (Value.int .i32 (wI (wlo + k))) = _; rw [hx]
                have HX : Hid (wI (wlo + k) = (x : Int)) := hx
                clear c4 hx
                subst ea
                have k1 : (wlo : Int) + (k : Int) < (wlo : Int) + (nw : Int) := by omega
                have k2 : (wlo : Int) + (k : Int) < (N : Int) := by omega
                have hxi : x < items := by omega
                have MX : Hid (ms.getD I 0 ∈ gl g x) := by
                  show ms.getD I 0 ∈ gl g x
                  rw [HM.out]
                  exact (UM.out m x).2 ⟨hm1, hm2, (tf_eq RE.out.1 RE.out.2.1 RE.out.2.2.1 RE.out.2.2.2 x).2 (.inr ⟨k, hlt2, by rw [HX.out]; rfl⟩)⟩
                go_wp2_with fail
                refine (spread_any x R.length lo n items (fun x => gl g x) κ t w.heap.size wa wb.heap.size w0 (.slice (some ⟨w1.heap.size, 0, none⟩) 1 1) _ aa cc cq sq ms I CX.out BZ.out hIl hxi MX.out li ln (UN.out x) UO.out UL.out B0.out (by have := S0.out; have := S1.out; omega) HSZ.out).mono ?_
                rintro e w4 ⟨a4', c4', cp4, sn4, ms4, rfl, hbz4, hI4, hm4, hmono, hsx⟩
                have BZ4 : Hid (Bz lo n items (fun x => gl g x) κ t wa.heap.size w0 (.slice (some ⟨w1.heap.size, 0, none⟩) 1 1) w4 a4' c4' cp4 sn4 ms4 I) := hbz4
                have ME4 : Hid (ms4.getD I 0 = m) := hm4.trans HM.out
                have SE4 : Hid (∀ i, i < k + 1 → sn4 (wI (wlo + i)).toNat = true) := fun i hi => by
                  by_cases e : i = k
                  · subst e; rw [HX.out]; exact hsx
                  · exact hmono _ (HSE.out i (by omega))
                have SR4 : Hid (∀ i, i < nr → sn4 (rI (rlo + i)).toNat = true) := fun i hi => hmono _ (HSR.out i hi)
                clear hbz4 hm4 hmono hsx BZ HM HSE
                go_wp2
                go_roundw
                case rel => exact ⟨k + 1, a4', c4', cp4, sn4, ms4, by omega, by go_num, rfl, BZ4.out, hI4, ME4.out, SE4.out, SR4.out⟩
                case measure => simp [intOf]; omega
              · obtain rfl : nw = k := by omega
                have k1 : ¬ ((wlo : Int) + (nw : Int) < (wlo : Int) + (nw : Int)) := by omega
                have BZ5 : Hid (Bz lo n items (fun x => gl g x) κ t wa.heap.size w0 (.slice (some ⟨w1.heap.size, 0, none⟩) 1 1) w3 aa cc cq sq ms (I + 1)) := ⟨BZ.out.bf, BZ.out.bi, done_next (rS := rS) (rI := rI) (wS := wS) (wI := wI) (lo := lo) (n := n) (items := items) (fun x hx => ((UM.out m x).1 hx).2.2) RE.out.1 RE.out.2.1 RE.out.2.2.1 RE.out.2.2.2 BZ.out.dn HM.out HSR.out HSE.out, BZ.out.sp⟩
                have hml2 : ms.length ≤ n := BZ.out.bi.len
                go_wp2
                go_roundw
                case rel => exact ⟨I + 1, aa, cc, cq, sq, ms, by omega, by go_num, rfl, BZ5.out⟩
                case measure => simp [intOf]; omega
          · obtain rfl : I = ms.length := by omega
            have kI : ¬ ((ms.length : Int) < (ms.length : Int)) := by omega
            go_wp2_with fail
            refine (sort_any (wa.heap.size + 2) gm ms.length cc (fun i => ms.getD i 0) _ (ms_row BZ.out.bf.m) (by omega) (by omega)).mono ?_
            rintro e ws ⟨h, rfl, SH, SO, hM, hT⟩
            have MA := Mn.after MN1.out (HW0.out ▸ BZ.out) hT
            have hl : (List.range ms.length).map h = clsJ κ lo (κ t) (n - lo) := BZ.out.bi.sorted CX.out BZ.out.dn HNO.out hlon SH SO
            obtain ⟨L, hL⟩ : ∃ L, L = clsJ κ lo (κ t) (n - lo) := ⟨_, rfl⟩
            have hLl : L.length = ms.length := by rw [hL, ← hl]; simp
            have hLm : L.map natv = (List.range ms.length).map (nats h) := by rw [hL, ← hl, List.map_map]; rfl
            have hrow : ws.ownsRow (wa.heap.size + 2) 3 1 (.slice (some ⟨gm, 0, none⟩) L.length cc) L.length (L.map natv) := by rw [hLm, hLl]; exact hM
            have ROW : Hid (ws.ownsRow (wa.heap.size + 2) 3 1 (.slice (some ⟨gm, 0, none⟩) L.length cc) L.length (L.map natv)) := hrow
            have MN2 : Hid (Mn wa ws n items cq sq (.slice ar R.length cr) R us) := MA.1
            have AP : Hid (∀ j, j < R.length → ∀ b, (us j).ownBlock = some b → gm ≠ b) := MA.2
            have OI2 : Hid (OI lo n (fun x => gl g x) κ (t + 1) cq sq) := OI.next CX.out BZ.out.bi BZ.out.dn HNO.out hlot
            have HL : Hid (L = clsJ κ lo (κ t) (n - lo)) := hL
            have HLl : Hid (L.length = ms.length) := hLl
            have hwsz := MN2.out.sz
            obtain ⟨i2, hi2, hy0, hy1, hy2⟩ := info_parts info22
            clear SH SO hM hT MA hl hLl hLm hrow hL BZ
            go_wp2_with (at_builtin; refine wpList_append_own _ rfl (.tmp 189) (.tmp 191) 41 rfl (wa.heap.size + 2) 22 i2 (.slice none 0 0) 1 24 Try.underlying41 hi2 hy0 hy1 hy2 rfl (by decide) _ _ _ rfl (MN2.out.gp.outer.alloc _) ⟨ws.heap.size, 0, none⟩ 1 1 [.slice (some ⟨gm, 0, none⟩) ms.length cc] rfl rfl ?c1 ?c2 ?c3 ?c4 ?c5 ?_)
            case c1 => exact cell_one_new _ _ _
            case c2 => intro u hu; simp at hu; subst hu; rfl
            case c3 => unfold maxLen; omega
            case c4 => omega
            case c5 => simp; omega
            intro v8 w8 hown8 hg8 _
            rw [← HLl.out] at hown8
            have MN8 := MN2.out.push hown8 hg8 ROW.out AP.out
            obtain ⟨a8, c8, hv8⟩ := ownsRow_shape hown8
            subst hv8
            have MN9 : Hid (Mn wa w8 n items cq sq (.slice a8 (R.length + 1) c8) (R ++ [(0, L)]) (upd us R.length (.slice (some ⟨gm, 0, none⟩) L.length cc))) := MN8
            clear MN8 hown8 hg8
            go_wp2
            go_roundw
            case rel =>
              have e : resUp κ lo n (i + 1) = R ++ [(0, L)] := by rw [resUp_new (by rw [← HT.out]; exact HNO.out), ← HR.out, HL.out, HT.out]
              have e2 : (resUp κ lo n (i + 1)).length = R.length + 1 := by rw [e]; simp
              refine ⟨i + 1, cq, sq, _, a8, c8, by have := HT.out; omega, by have := HT.out; rw [show ((lo + (i + 1) : Nat) : Int) = (t : Int) + 1 by omega], by rw [e2], by rw [e2, e]; exact MN9.out, by rw [← Nat.add_assoc, ← HT.out]; exact OI2.out⟩
            case measure => simp [intOf]; omega
      · obtain rfl : i = n - lo := by have := HT.out; omega
        have hno : ¬ ((t : Int) < (n : Int)) := by omega
        have e : R.map (·.2) = comps rS rI wS wI lo n := by rw [HR.out, HK.out, resUp_comps]
        have HE : Hid (R.map (·.2) = comps rS rI wS wI lo n) := e
        clear e
        go_wp2
        go_ret
        refine ⟨ar, cr, ?_, ?_, below_next BA.out MN1.out.bel⟩
        · rw [← HE.out]; simp
        · rw [← HE.out]; exact MN1.out.gp.lists (fun h0 => by have := MN1.out.emp h0; simp at this; exact ⟨this.2.2, this.1⟩)
end Go.Proofs.Qxb6602948a
