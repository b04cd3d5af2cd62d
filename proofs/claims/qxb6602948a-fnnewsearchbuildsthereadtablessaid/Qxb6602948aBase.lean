import Derived.Test.Qxb6602948aClone
import Derived.Deep.QuietTactic
import Derived.BigQuiet
namespace Go.Proofs.Qxb6602948a
open Go.RowKit Go.Kx
set_option linter.unusedVariables false

abbrev ints (k : IntKind) (z : Nat → Int) : Nat → Value := fun j => .int k (z j)

/-- 'start' describes N lists end to end inside a slice of M items -/
structure Starts (z : Nat → Int) (L N M : Nat) : Prop where
  len : L = N + 1
  zero : 0 ≤ z 0
  mono : ∀ i, i < N → z i ≤ z (i + 1)
  last : z N ≤ (M : Int)

/-- it answers a bool; if that is true, Q; nothing old has turned -/
def Says (Q : Prop) (w : World) (e : Ending) (w' : World) : Prop := ∃ b, e = .returned (.bool b) ∧ (b = true → Q) ∧ Below w.heap.size w w'
theorem Says.no {Q : Prop} {w w' : World} (h : Below w.heap.size w w') : Says Q w (.returned (.bool false)) w' := ⟨false, rfl, by simp, h⟩
theorem Says.yes {Q : Prop} {w w' : World} (q : Q) (h : Below w.heap.size w w') : Says Q w (.returned (.bool true)) w' := ⟨true, rfl, fun _ => q, h⟩

set_option maxHeartbeats 400000 in
theorem startsOK_any (a : Option Addr) (L c N M : Nat) (z : Nat → Int) (w : World) (h : Rw w a L c (ints .i64 z)) (hL : L ≤ 1048576) (hN : N ≤ 1048576) (hM : M ≤ 1048576) :
    Calls Try.prog 27 #[.slice a L c, .int .i64 N, .int .i64 M] w fun e w' => Says (Starts z L N M) w e w' := by
  by_cases hl : L = N + 1
  · obtain ⟨b, off, rfl, hb, hc⟩ := h.plain (by omega)
    have h0 := hc 0 (by omega)
    rw [Nat.add_zero] at h0
    have hNc := hc N (by omega)
    have HC : Hid (∀ j, j < L → w.cell? ⟨b, off + j, none⟩ = some (.int .i64 (z j))) := hc
    have hp : (0 : Int) < (L : Int) := by omega
    have hp2 : (N : Int) < (L : Int) := by omega
    have e1 : (((L : Nat) : Int) != (N : Int) + 1) = false := by subst hl; simp
    have HL : Hid (L = N + 1) := hl
    clear hc h hl
    by_cases hz : z 0 < 0
    · go_enter Try.func27, Try.ntmps27
      go_wp2
      go_ret
      exact Says.no (Below.refl _ _)
    · have hz' : 0 ≤ z 0 := by omega
      go_enter Try.func27, Try.ntmps27
      go_wp2
      go_loopw [7] (fun t wr => ∃ k : Nat, k ≤ N ∧ t = .int .i64 k ∧ (∀ i, i < k → z i ≤ z (i + 1)) ∧ Below w.heap.size w wr) (fun t _ => N - (intOf t).toNat)
      case atStart => exact ⟨0, Nat.zero_le _, rfl, by simp, Below.refl _ _⟩
      case round =>
        obtain ⟨k, hk, rfl, hmono, hbel⟩ := hrel
        have HM : Hid (∀ i, i < k → z i ≤ z (i + 1)) := hmono
        clear hmono
        by_cases hlt : k < N
        · have c1 := cell_later hbel (HC.out k (by omega))
          have c2 := cell_later hbel (HC.out (k + 1) (by omega))
          have b1 : (k : Int) < (L : Int) := by omega
          have b2 : (k : Int) + 1 < (L : Int) := by omega
          by_cases hgt : z (k + 1) < z k
          · go_wp2
            go_quiet (fail)
            go_wp2
            go_ret
            exact Says.no (below_drewN hbel _)
          · go_wp2
            go_quiet (fail)
            go_wp2
            go_roundw
            case rel => exact ⟨k + 1, by omega, by go_num, fun i hi => by rcases Nat.lt_succ_iff_lt_or_eq.1 hi with h | h; exact HM.out i h; subst h; omega, below_drewN hbel _⟩
            case measure => simp [intOf]; omega
        · obtain rfl : k = N := by omega
          have c1 := cell_later hbel hNc
          go_wp2
          go_ret
          refine ⟨decide (z k ≤ (M : Int)), by simp, fun hd => ⟨HL.out, hz', HM.out, by simpa using hd⟩, hbel⟩
  · have e1 : (((L : Nat) : Int) != (N : Int) + 1) = true := by rw [bne_iff_ne]; omega
    go_enter Try.func27, Try.ntmps27
    go_wp2
    go_ret
    exact Says.no (Below.refl _ _)

end Go.Proofs.Qxb6602948a
