import Derived.Test.Qxb6602948aRoot
import Derived.Test.Qxb6602948aGp
namespace Go.Proofs.Qxb6602948a
open Go.RowKit Go.Kx Go.Uf
set_option linter.unusedVariables false

/-- the same numbers, in some order -/
structure Shuf (f h : Nat → Nat) (n : Nat) : Prop where
  to : ∀ i, i < n → ∃ j, j < n ∧ h i = f j
  from' : ∀ j, j < n → ∃ i, i < n ∧ h i = f j
  inj : (∀ i j, i < n → j < n → f i = f j → i = j) → ∀ i j, i < n → j < n → h i = h j → i = j

theorem Shuf.refl (f : Nat → Nat) (n : Nat) : Shuf f f n := ⟨fun i hi => ⟨i, hi, rfl⟩, fun j hj => ⟨j, hj, rfl⟩, fun h => h⟩

/-- places j and j + 1 change -/
def swp (h : Nat → Nat) (j : Nat) : Nat → Nat := upd (upd h j (h (j + 1))) (j + 1) (h j)
theorem swp_0 (h : Nat → Nat) (j : Nat) : swp h j j = h (j + 1) := by unfold swp; rw [upd_ne _ _ (by omega), upd_same]
theorem swp_1 (h : Nat → Nat) (j : Nat) : swp h j (j + 1) = h j := by unfold swp; rw [upd_same]
theorem swp_o (h : Nat → Nat) {i j : Nat} (h0 : i ≠ j) (h1 : i ≠ j + 1) : swp h j i = h i := by unfold swp; rw [upd_ne _ _ h1, upd_ne _ _ h0]

theorem Shuf.swap {f h : Nat → Nat} {n j : Nat} (s : Shuf f h n) (hj : j + 1 < n) : Shuf f (swp h j) n := by
  refine ⟨fun i hi => ?_, fun k hk => ?_, fun hf => ?_⟩
  · by_cases e0 : i = j
    · subst e0; rw [swp_0]; exact s.to _ hj
    · by_cases e1 : i = j + 1
      · subst e1; rw [swp_1]; exact s.to _ (by omega)
      · rw [swp_o _ e0 e1]; exact s.to i hi
  · obtain ⟨i, hi, e⟩ := s.from' k hk
    by_cases e0 : i = j
    · subst e0; exact ⟨i + 1, hj, by rw [swp_1]; exact e⟩
    · by_cases e1 : i = j + 1
      · subst e1; exact ⟨j, by omega, by rw [swp_0]; exact e⟩
      · exact ⟨i, hi, by rw [swp_o _ e0 e1]; exact e⟩
  · have hi := s.inj hf
    intro a b ha hb e
    by_cases a0 : a = j
    · subst a0
      rw [swp_0] at e
      by_cases b0 : b = a
      · exact b0.symm
      · by_cases b1 : b = a + 1
        · subst b1; rw [swp_1] at e; have := hi _ _ hj ha e; omega
        · rw [swp_o _ b0 b1] at e; have := hi _ _ hj hb e; omega
    · by_cases a1 : a = j + 1
      · subst a1
        rw [swp_1] at e
        by_cases b0 : b = j
        · subst b0; rw [swp_0] at e; have := hi _ _ hb ha e; omega
        · by_cases b1 : b = j + 1
          · exact b1.symm
          · rw [swp_o _ b0 b1] at e; have := hi _ _ (by omega) hb e; omega
      · rw [swp_o _ a0 a1] at e
        by_cases b0 : b = j
        · subst b0; rw [swp_0] at e; have := hi _ _ ha hj e; omega
        · by_cases b1 : b = j + 1
          · subst b1; rw [swp_1] at e; have := hi _ _ ha (by omega) e; omega
          · rw [swp_o _ b0 b1] at e; exact hi _ _ ha hb e

/-- sorted below i -/
def Srt (h : Nat → Nat) (i : Nat) : Prop := ∀ a b, a < b → b < i → h a ≤ h b
/-- sorted up to i, but for what stands at j -/
def Ins (h : Nat → Nat) (i j : Nat) : Prop := ∀ a b, a < b → b ≤ i → b ≠ j → h a ≤ h b

theorem Ins.start {h : Nat → Nat} {i : Nat} (s : Srt h i) : Ins h i i := fun a b hab hb hne => s a b hab (by omega)
theorem Ins.stop0 {h : Nat → Nat} {i : Nat} (s : Ins h i 0) : Srt h (i + 1) := fun a b hab hb => s a b hab (by omega) (by omega)
theorem Ins.stop {h : Nat → Nat} {i j : Nat} (s : Ins h i (j + 1)) (hle : h j ≤ h (j + 1)) : Srt h (i + 1) := fun a b hab hb => by
  by_cases e : b = j + 1
  · subst e
    by_cases e2 : a = j
    · subst e2; exact hle
    · exact Nat.le_trans (s a j (by omega) (by omega) (by omega)) hle
  · exact s a b hab (by omega) e
theorem Ins.step {h : Nat → Nat} {i j : Nat} (s : Ins h i (j + 1)) (hlt : h (j + 1) < h j) (hji : j + 1 ≤ i) : Ins (swp h j) i j := fun a b hab hb hne => by
  by_cases e1 : b = j + 1
  · subst e1
    rw [swp_1]
    by_cases a0 : a = j
    · subst a0; rw [swp_0]; omega
    · rw [swp_o _ a0 (by omega)]; exact s a j (by omega) (by omega) (by omega)
  · rw [swp_o _ hne e1]
    by_cases a0 : a = j
    · subst a0; rw [swp_0]; exact s (a + 1) b (by omega) hb e1
    · by_cases a1 : a = j + 1
      · subst a1; rw [swp_1]; exact s j b (by omega) hb e1
      · rw [swp_o _ a0 a1]; exact s a b hab hb e1

theorem lset (f : Nat → Nat) (n i v : Nat) : ((List.range n).map (nats f)).set i (.int .i64 (v : Nat)) = (List.range n).map (nats (upd f i v)) := by
  apply List.ext_getElem?
  intro j
  by_cases hj : j < n
  · by_cases e : i = j
    · subst e; simp [hj, upd]
    · have e' : j ≠ i := fun h => e h.symm
      simp [e, hj, upd, e']
  · by_cases e : i = j
    · subst e; simp [hj]
    · simp [hj]

/-- the members in memory -/
def MRow (w : World) (base g n cap : Nat) (f : Nat → Nat) : Prop := w.ownsRow base 3 1 (.slice (some ⟨g, 0, none⟩) n cap) n ((List.range n).map (nats f))
theorem MRow.cell {w : World} {base g n cap : Nat} {f : Nat → Nat} (h : MRow w base g n cap f) {j : Nat} (hj : j < n) : w.cell? ⟨g, j, none⟩ = some (.int .i64 (f j : Nat)) := by
  have := World.ownsRow.cellAt h j (by omega)
  rw [this]; simp [hj]
theorem MRow.set {w : World} {base g n cap : Nat} {f : Nat → Nat} (h : MRow w base g n cap f) (i v : Nat) : MRow (w.setCell ⟨g, i, none⟩ (.int .i64 (v : Nat))) base g n cap (upd f i v) := by
  have := (World.ownsRow.stored h i (.int .i64 (v : Nat))).1
  rw [lset] at this
  exact this
theorem MRow.drewN {w : World} {base g n cap : Nat} {f : Nat → Nat} (h : MRow w base g n cap f) (k : Nat) : MRow (w.drewN k) base g n cap f := h

def SortPost (base g n cap : Nat) (f : Nat → Nat) (w : World) (e : Ending) (w' : World) : Prop :=
  ∃ h, e = .returned (.tuple #[]) ∧ Shuf f h n ∧ Srt h n ∧ MRow w' base g n cap h ∧ Turned g w w'

set_option maxRecDepth 100000 in
set_option maxHeartbeats 1000000 in
theorem sort_any (base g n cap : Nat) (f : Nat → Nat) (w : World) (hr : MRow w base g n cap f) (hn : n ≤ 4096) (h0 : 1 ≤ n) :
    Calls Try.prog 32 #[.slice (some ⟨g, 0, none⟩) n cap] w fun e w' => SortPost base g n cap f w e w' := by
  go_enter Try.func32, Try.ntmps32
  go_wp2
  go_loopw [2] (fun s wr => ∃ (i : Nat) (h : Nat → Nat), 1 ≤ i ∧ i ≤ n ∧ s = .int .i64 i ∧ Shuf f h n ∧ Srt h i ∧ MRow wr base g n cap h ∧ Turned g w wr) (fun s _ => n - (intOf s).toNat)
  case atStart => exact ⟨1, f, Nat.le_refl _, h0, rfl, Shuf.refl _ _, fun a b hab hb => by omega, hr, Turned.refl _ _⟩
  case round =>
    obtain ⟨i, h, hi1, hi, rfl, hsh, hso, hm, hT⟩ := hrel
    have SH : Hid (Shuf f h n) := hsh
    have SO : Hid (Srt h i) := hso
    have HM : Hid (MRow wr base g n cap h) := hm
    have HT : Hid (Turned g w wr) := hT
    clear hsh hso hm hT hr
    by_cases hlt : i < n
    · have k1 : (i : Int) < (n : Int) := by omega
      go_wp2
      go_loopw [3] (fun s wr => ∃ (j : Nat) (h : Nat → Nat), j ≤ i ∧ s = .int .i64 j ∧ Shuf f h n ∧ Ins h i j ∧ MRow wr base g n cap h ∧ Turned g w wr) (fun s _ => (intOf s).toNat)
      case atStart => exact ⟨i, h, Nat.le_refl _, rfl, SH.out, Ins.start SO.out, HM.out, HT.out⟩
      case round =>
        clear SH SO HM HT
        obtain ⟨j, h, hj, rfl, hsh, hin, hm, hT⟩ := hrel
        have SH : Hid (Shuf f h n) := hsh
        have IN : Hid (Ins h i j) := hin
        have HM : Hid (MRow wr base g n cap h) := hm
        have HT : Hid (Turned g w wr) := hT
        clear hsh hin hm hT
        match j, hj, IN with
        | 0, hj, IN =>
          go_wp2
          go_quiet (fail)
          go_wp2
          go_roundw
          case rel => exact ⟨i + 1, h, by omega, by omega, by go_num, SH.out, Ins.stop0 IN.out, HM.out.drewN _, HT.out.drewN _⟩
          case measure => simp [intOf]; omega
        | j + 1, hj, IN =>
          have c1 := HM.out.cell (show j < n by omega)
          have c2 := HM.out.cell (show j + 1 < n by omega)
          have f1 := World.ownsRow.frozenAt HM.out j
          have f2 := World.ownsRow.frozenAt HM.out (j + 1)
          have j1 : (j : Int) + 1 < (n : Int) := by omega
          have j0 : (j : Int) < (n : Int) := by omega
          by_cases hgt : h (j + 1) < h j
          · have d1 : ((h (j + 1) : Nat) : Int) < ((h j : Nat) : Int) := by omega
            go_wp2
            go_quiet (fail)
            go_wp2
            go_roundw
            case rel => exact ⟨j, swp h j, by omega, rfl, SH.out.swap (by omega), Ins.step IN.out hgt (by omega), ((HM.out.drewN _).set j _).set (j + 1) _, ((HT.out.drewN _).set j _).set (j + 1) _⟩
            case measure => simp [intOf]
          · have d1 : ¬ ((h (j + 1) : Nat) : Int) < ((h j : Nat) : Int) := by omega
            go_wp2
            go_quiet (fail)
            go_wp2
            go_roundw
            case rel => exact ⟨i + 1, h, by omega, by omega, by go_num, SH.out, Ins.stop IN.out (by omega), HM.out.drewN _, HT.out.drewN _⟩
            case measure => simp [intOf]; omega
    · obtain rfl : i = n := by omega
      have k1 : ¬ (i : Int) < (i : Int) := by omega
      go_wp2
      exact bodyPost_ret (v := .tuple #[]) (by simp [results, Try.results32]) rfl ⟨h, rfl, SH.out, SO.out, HM.out, HT.out⟩
end Go.Proofs.Qxb6602948a
