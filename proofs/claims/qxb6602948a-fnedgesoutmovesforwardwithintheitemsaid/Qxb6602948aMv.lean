import Derived.Test.Qxb6602948aBase
namespace Go.Proofs.Qxb6602948a
open Go.RowKit Go.Kx
set_option linter.unusedVariables false

/-- fits an int32 -/
def I32 (z : Nat → Int) : Prop := ∀ j, -2147483648 ≤ z j ∧ z j ≤ 2147483647

theorem mono_le {z : Nat → Int} {L : Nat} (h : ∀ x, x + 1 < L → z x ≤ z (x + 1)) : ∀ (d x : Nat), x + d < L → z x ≤ z (x + d)
  | 0, x, _ => Int.le_refl _
  | d + 1, x, hx => Int.le_trans (mono_le h d x (by omega)) (h (x + d) (by omega))
theorem mono_le' {z : Nat → Int} {L : Nat} (h : ∀ x, x + 1 < L → z x ≤ z (x + 1)) {x y : Nat} (hxy : x ≤ y) (hy : y < L) : z x ≤ z y := by
  have := mono_le h (y - x) x (by omega)
  rwa [Nat.add_sub_cancel' hxy] at this

structure Mv (wS wI it : Nat → Int) (Lw P Li Lh T : Nat) : Prop where
  li : Li = P
  lh : Lh = P
  lw : 1 ≤ Lw
  zero : wS 0 = 0
  last : wS (Lw - 1) = (P : Int)
  mono : ∀ x, x + 1 < Lw → wS x ≤ wS (x + 1)
  item : ∀ x, x + 1 < Lw → ∀ p : Nat, wS x ≤ (p : Int) → (p : Int) < wS (x + 1) → it p = (x : Int)
  wr : ∀ p, p < P → 0 ≤ wI p ∧ wI p < (T : Int)

set_option maxRecDepth 100000 in
set_option maxHeartbeats 2000000 in
theorem mvsgOK_any (T : Nat) (aO : Option Addr) (LO cO : Nat) (zO : Nat → Int) (aI : Option Addr) (LI cI : Nat) (aW : Option Addr) (Lw cW : Nat) (wS : Nat → Int) (aw : Option Addr) (P cw : Nat) (wI : Nat → Int)
    (ai : Option Addr) (Li ci : Nat) (it : Nat → Int) (ah : Option Addr) (Lh ch : Nat) (w : World)
    (hO : Rw w aO LO cO (ints .i64 zO)) (hW : Rw w aW Lw cW (ints .i64 wS)) (hw : Rw w aw P cw (ints .i32 wI)) (hi : Rw w ai Li ci (ints .i32 it)) (bw : I32 wI) (bi : I32 it)
    (lT : T ≤ 1048576) (lO : LO ≤ 1048576) (lI : LI ≤ 1048576) (lW : Lw ≤ 1048576) (lw : P ≤ 1048576) (li : Li ≤ 1048576) (lh : Lh ≤ 1048576) :
    Calls Try.prog 8 #[.int .i64 T, .slice aO LO cO, .slice aI LI cI, .slice aW Lw cW, .slice aw P cw, .slice ai Li ci, .slice ah Lh ch] w
      fun e w' => Says (Mv wS wI it Lw P Li Lh T) w e w' := by
  have HW : Hid (Rw w aW Lw cW (ints .i64 wS)) := hW
  have Hw : Hid (Rw w aw P cw (ints .i32 wI)) := hw
  have Hi : Hid (Rw w ai Li ci (ints .i32 it)) := hi
  have BW : Hid (I32 wI) := bw
  have BI : Hid (I32 it) := bi
  clear hW hw hi bw bi
  go_enter Try.func8, Try.ntmps8
  go_wp2_with fail
  refine (startsOK_any aO LO cO T LI zO _ hO lO lT lI).mono ?_
  rintro e w1 ⟨b, rfl, -, hb1⟩
  clear hO
  cases b with
  | false =>
    go_wp2
    go_ret
    exact Says.no hb1
  | true =>
  by_cases g1 : Li = P ∧ Lh = P
  rotate_left
  · by_cases g0 : Li = P
    · have d0 : ((Li : Int) != (P : Int)) = false := by subst g0; simp
      have d1 : ((Lh : Int) != (P : Int)) = true := by rw [bne_iff_ne]; omega
      clear g0
      go_wp2
      go_ret
      exact Says.no hb1
    · have d0 : ((Li : Int) != (P : Int)) = true := by rw [bne_iff_ne]; omega
      go_wp2
      go_ret
      exact Says.no hb1
  have d0 : ((Li : Int) != (P : Int)) = false := by rw [g1.1]; simp
  have d1 : ((Lh : Int) != (P : Int)) = false := by rw [g1.2]; simp
  have G1 : Hid (Li = P ∧ Lh = P) := g1
  clear g1
  by_cases g2 : Lw < 1
  · go_wp2
    go_ret
    exact Says.no hb1
  have d2 : decide (((Lw : Nat) : Int) < 1) = false := decide_eq_false (by omega)
  obtain ⟨bW, oW, rfl, _, cW0⟩ := (HW.out.later hb1).plain (by omega)
  have CW : Hid (∀ j, j < Lw → w1.cell? ⟨bW, oW + j, none⟩ = some (.int .i64 (wS j))) := cW0
  clear cW0 HW
  have k0 := CW.out 0 (by omega)
  rw [Nat.add_zero] at k0
  have k1 := CW.out (Lw - 1) (by omega)
  have s1 : (((Lw : Nat) : Int) - 1).toNat = Lw - 1 := by omega
  have p0 : (0 : Int) < (Lw : Int) := by omega
  by_cases g3 : wS 0 = 0
  rotate_left
  · have d3 : (wS 0 != 0) = true := by rw [bne_iff_ne]; exact g3
    go_wp2
    go_ret
    exact Says.no hb1
  have d3 : (wS 0 != 0) = false := by simp [g3]
  have G3 : Hid (wS 0 = 0) := g3
  clear g3
  by_cases g4 : wS (Lw - 1) = (P : Int)
  rotate_left
  · have d4 : (wS (Lw - 1) != (P : Int)) = true := by rw [bne_iff_ne]; exact g4
    go_wp2
    go_ret
    exact Says.no hb1
  have d4 : (wS (Lw - 1) != (P : Int)) = false := by simp [g4]
  have G4 : Hid (wS (Lw - 1) = (P : Int)) := g4
  clear g4
  go_wp2
  clear k0 k1 s1 d0 d1 d2 d3 d4
  go_loopw [16] (fun t wr => ∃ k : Nat, k + 1 ≤ Lw ∧ t = .int .i64 k ∧ (∀ x, x < k → wS x ≤ wS (x + 1)) ∧ Below w1.heap.size w1 wr) (fun t _ => Lw - (intOf t).toNat)
  case atStart => exact ⟨0, by omega, rfl, by simp, Below.refl _ _⟩
  case round =>
    obtain ⟨k, hk, rfl, hmono, hbel⟩ := hrel
    have HM : Hid (∀ i, i < k → wS i ≤ wS (i + 1)) := hmono
    clear hmono
    by_cases hlt : k + 1 < Lw
    · have c1 := cell_later hbel (CW.out k (by omega))
      have c2 := cell_later hbel (CW.out (k + 1) (by omega))
      have b1 : (k : Int) < (Lw : Int) := by omega
      have b2 : (k : Int) + 1 < (Lw : Int) := by omega
      by_cases hgt : wS (k + 1) < wS k
      · go_wp2
        go_quiet (fail)
        go_wp2
        go_ret
        exact Says.no (below_next hb1 (below_drewN hbel _))
      · go_wp2
        go_quiet (fail)
        go_wp2
        go_roundw
        case rel => exact ⟨k + 1, by omega, by go_num, fun i hi => by rcases Nat.lt_succ_iff_lt_or_eq.1 hi with h | h; exact HM.out i h; subst h; omega, below_drewN hbel _⟩
        case measure => simp [intOf]; omega
    · obtain ⟨wf, hwf⟩ : ∃ wf, wf = wr := ⟨_, rfl⟩
      subst hwf
      have hmono : ∀ x, x + 1 < Lw → wS x ≤ wS (x + 1) := fun x hx => HM.out x (by omega)
      have HMo : Hid (∀ x, x + 1 < Lw → wS x ≤ wS (x + 1)) := hmono
      have W0 : Hid (∀ x, x < Lw → 0 ≤ wS x ∧ wS x ≤ (P : Int)) := fun x hx => ⟨by have := mono_le' hmono (Nat.zero_le x) hx; rw [G3.out] at this; exact this, by have := mono_le' hmono (show x ≤ Lw - 1 by omega) (by omega); rw [G4.out] at this; exact this⟩
      clear hmono HM
      have eb := below_next hb1 hbel
      have EB : Hid (Below w.heap.size w wf) := eb
      have CW2 : Hid (∀ j, j < Lw → wf.cell? ⟨bW, oW + j, none⟩ = some (.int .i64 (wS j))) := fun j hj => cell_later hbel (CW.out j hj)
      have Hi2 : Hid (Rw wf ai Li ci (ints .i32 it)) := Hi.out.later eb
      have Hw2 : Hid (Rw wf aw P cw (ints .i32 wI)) := Hw.out.later eb
      clear CW Hi Hw eb hbel hb1
      go_wp2
      go_loopw [17] (fun t wq => ∃ x : Nat, x + 1 ≤ Lw ∧ t = .int .i64 x ∧ (∀ y, y < x → ∀ p : Nat, wS y ≤ (p : Int) → (p : Int) < wS (y + 1) → it p = (y : Int)) ∧ Below wf.heap.size wf wq) (fun t _ => Lw - (intOf t).toNat)
      case atStart => exact ⟨0, by omega, rfl, by simp, Below.refl _ _⟩
      case round =>
        obtain ⟨x, hx, rfl, hitem, hbel⟩ := hrel
        obtain ⟨wq, hwq⟩ : ∃ wq, wq = wr := ⟨_, rfl⟩
        subst hwq
        have HI : Hid (∀ y, y < x → ∀ p : Nat, wS y ≤ (p : Int) → (p : Int) < wS (y + 1) → it p = (y : Int)) := hitem
        clear hitem
        by_cases hlt2 : x + 1 < Lw
        · have c1 := cell_later hbel (CW2.out x (by omega))
          have c2 := cell_later hbel (CW2.out (x + 1) (by omega))
          have b1 : (x : Int) < (Lw : Int) := by omega
          have b2 : (x : Int) + 1 < (Lw : Int) := by omega
          have w0 := W0.out x (by omega)
          have w1' := W0.out (x + 1) (by omega)
          have w2' := HMo.out x (by omega)
          go_wp2
          go_loopw [18] (fun t wp => ∃ p : Nat, wS x ≤ (p : Int) ∧ (p : Int) ≤ wS (x + 1) ∧ t = .int .i64 p ∧ (∀ q : Nat, wS x ≤ (q : Int) → q < p → it q = (x : Int)) ∧ Below wq.heap.size wq wp) (fun t _ => (wS (x + 1) - intOf t).toNat)
          case atStart => exact ⟨(wS x).toNat, by omega, by omega, by rw [Int.toNat_of_nonneg w0.1], fun q h1 h2 => by omega, Below.refl _ _⟩
          case round =>
            obtain ⟨p, hp1, hp2, rfl, hq, hbp⟩ := hrel
            have HQ : Hid (∀ q : Nat, wS x ≤ (q : Int) → q < p → it q = (x : Int)) := hq
            clear hq
            have c2p := cell_later hbp c2
            by_cases hpl : (p : Int) < wS (x + 1)
            · obtain ⟨bi, oi, rfl, _, ci0⟩ := ((Hi2.out.later hbel).later hbp).plain (show 0 < Li by have := G1.out.1; omega)
              have cip := ci0 p (by have := G1.out.1; omega)
              have bip := BI.out p
              have blp : (p : Int) < (Li : Int) := by have := G1.out.1; omega
              clear ci0 c1 c2
              by_cases hit : it p = (x : Int)
              · have ne : (it p != (x : Int)) = false := by simp [hit]
                have HIT : Hid (it p = (x : Int)) := hit
                clear hit
                go_wp2
                go_roundw
                case rel => exact ⟨p + 1, by omega, by omega, by go_num, fun q h1 h2 => by rcases Nat.lt_succ_iff_lt_or_eq.1 h2 with h | h; exact HQ.out q h1 h; subst h; exact HIT.out, hbp⟩
                case measure => simp [intOf]; omega
              · have ne : (it p != (x : Int)) = true := by rw [bne_iff_ne]; exact hit
                go_wp2
                go_ret
                exact Says.no (below_next (below_next EB.out hbel) hbp)
            · clear c1 c2
              have hbq := below_next hbel hbp
              go_wp2
              go_roundw
              case rel => exact ⟨x + 1, by omega, by go_num, fun y hy q h1 h2 => by rcases Nat.lt_succ_iff_lt_or_eq.1 hy with h | h; exact HI.out y h q h1 h2; subst h; exact HQ.out q h1 (by omega), hbq⟩
              case measure => simp [intOf]; omega
        · have HIA : Hid (∀ y, y + 1 < Lw → ∀ p : Nat, wS y ≤ (p : Int) → (p : Int) < wS (y + 1) → it p = (y : Int)) := fun y hy => HI.out y (by omega)
          clear HI
          have Hw3 : Hid (Rw wq aw P cw (ints .i32 wI)) := Hw2.out.later hbel
          have EC : Hid (Below w.heap.size w wq) := below_next EB.out hbel
          clear Hw2 EB hbel
          go_wp2
          go_loopw [19] (fun t wp => ∃ p : Nat, p ≤ P ∧ t = .int .i64 p ∧ (∀ q : Nat, q < p → 0 ≤ wI q ∧ wI q < (T : Int)) ∧ Below wq.heap.size wq wp) (fun t _ => P - (intOf t).toNat)
          case atStart => exact ⟨0, by omega, rfl, by simp, Below.refl _ _⟩
          case round =>
            obtain ⟨p, hp, rfl, hq, hbp⟩ := hrel
            have HQ : Hid (∀ q : Nat, q < p → 0 ≤ wI q ∧ wI q < (T : Int)) := hq
            clear hq
            by_cases hpl : p < P
            · obtain ⟨bi, oi, rfl, _, ci0⟩ := (Hw3.out.later hbp).plain (show 0 < P by omega)
              have cip := ci0 p hpl
              have bip := BW.out p
              have blp : (p : Int) < (P : Int) := by omega
              clear ci0
              by_cases h1 : wI p < 0
              · go_wp2
                go_ret
                exact Says.no (below_next EC.out hbp)
              · have dn : decide (wI p < 0) = false := decide_eq_false h1
                by_cases h2 : (T : Int) ≤ wI p
                · go_wp2
                  go_ret
                  exact Says.no (below_next EC.out hbp)
                · go_wp2
                  go_roundw
                  case rel => exact ⟨p + 1, by omega, by go_num, fun q h => by rcases Nat.lt_succ_iff_lt_or_eq.1 h with h | h; exact HQ.out q h; subst h; omega, hbp⟩
                  case measure => simp [intOf]; omega
            · go_wp2
              go_ret
              exact Says.yes ⟨G1.out.1, G1.out.2, by omega, G3.out, G4.out, HMo.out, HIA.out, fun q hq => HQ.out q (by omega)⟩ (below_next EC.out hbp)

end Go.Proofs.Qxb6602948a
