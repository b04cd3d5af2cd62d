import Derived.Test.Qxb6602948aPx
namespace Go.Proofs.Qxb6602948a
open Go.RowKit Go.Kx
set_option linter.unusedVariables false

def IdxPost (n : Nat) (f : Nat → Int) (z : Int) (w : World) (e : Ending) (w' : World) : Prop := ∃ v : Int, e = .returned (.int .i64 v) ∧ (0 ≤ v ↔ ∃ i, i < n ∧ f i = z) ∧ w' = w
def HasPost (n : Nat) (f : Nat → Int) (z : Int) (w : World) (e : Ending) (w' : World) : Prop := ∃ b : Bool, e = .returned (.bool b) ∧ (b = true ↔ ∃ i, i < n ∧ f i = z) ∧ w' = w

set_option maxHeartbeats 400000 in
theorem index_any (a : Option Addr) (n c : Nat) (f : Nat → Int) (z : Int) (w : World) (h : Rw w a n c (ints .i64 f)) (hn : n ≤ 1048576) :
    Calls Try.prog 44 #[.slice a n c, .int .i64 z] w fun e w' => IdxPost n f z w e w' := by
  have HR : Hid (Rw w a n c (ints .i64 f)) := h
  clear h
  go_enter Try.func44, Try.ntmps44
  go_wp2
  go_loop [8] (fun s => ∃ k : Nat, k ≤ n ∧ s = .int .i64 k ∧ ∀ i, i < k → f i ≠ z) (fun s => n - (intOf s).toNat)
  case atStart => exact ⟨0, Nat.zero_le _, rfl, by simp⟩
  case round =>
    obtain ⟨k, hk, rfl, hq⟩ := hrel
    have HQ : Hid (∀ i, i < k → f i ≠ z) := hq
    clear hq
    by_cases hlt : k < n
    · obtain ⟨bq, oq, rfl, _, d⟩ := HR.out.plain (by omega)
      have d1 := d k hlt
      have kk : (k : Int) < (n : Int) := by omega
      clear d
      by_cases he : f k = z
      · have e1 : (z == f k) = true := by rw [he]; simp
        have HE : Hid (f k = z) := he
        clear he
        go_wp2
        go_ret
        exact ⟨k, rfl, ⟨fun _ => ⟨k, hlt, HE.out⟩, fun _ => by omega⟩, rfl⟩
      · have e1 : (z == f k) = false := by simp; exact fun h => he h.symm
        have HE : Hid (f k ≠ z) := he
        clear he
        go_wp2
        go_round
        case rel => exact ⟨k + 1, by omega, by go_num, fun i hi => by rcases Nat.lt_succ_iff_lt_or_eq.1 hi with h | h; exact HQ.out i h; subst h; exact HE.out⟩
        case measure => simp [intOf]; omega
    · go_wp2
      go_ret
      exact ⟨-1, rfl, ⟨fun h => by omega, fun ⟨i, hi, he⟩ => absurd he (HQ.out i (by omega))⟩, rfl⟩

theorem contains_any (a : Option Addr) (n c : Nat) (f : Nat → Int) (z : Int) (w : World) (h : Rw w a n c (ints .i64 f)) (hn : n ≤ 1048576) :
    Calls Try.prog 41 #[.slice a n c, .int .i64 z] w fun e w' => HasPost n f z w e w' := by
  go_enter Try.func41, Try.ntmps41
  go_wp2_with fail
  refine (index_any a n c f z _ h hn).mono ?_
  rintro e w' ⟨v, rfl, hv, hw⟩
  obtain rfl : w = w' := hw.symm
  have HV : Hid (0 ≤ v ↔ ∃ i, i < n ∧ f i = z) := hv
  clear hv h
  go_wp2
  go_ret
  exact ⟨decide (0 ≤ v), by simp, by simp; exact HV.out, rfl⟩
theorem contains_is (a : Option Addr) (n c : Nat) (f : Nat → Int) (z : Int) (w : World) (h : Rw w a n c (ints .i64 f)) (hn : n ≤ 1048576) (b : Bool) (hb : b = true ↔ ∃ i, i < n ∧ f i = z) :
    Calls Try.prog 41 #[.slice a n c, .int .i64 z] w fun e w' => e = .returned (.bool b) ∧ w' = w := by
  refine (contains_any a n c f z w h hn).mono ?_
  rintro e w' ⟨b', rfl, hb', hw⟩
  have : b' = b := Bool.eq_iff_iff.2 (hb'.trans hb.symm)
  rw [this]
  exact ⟨rfl, hw⟩
end Go.Proofs.Qxb6602948a
