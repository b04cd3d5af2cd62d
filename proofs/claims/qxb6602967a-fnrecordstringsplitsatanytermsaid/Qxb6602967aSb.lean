import Derived.Test.Qxb6602967aZz
namespace Go.Proofs.Qxb6602967a
open Go.RowKit Go.Kx
set_option linter.unusedVariables false

def SPost (n : Nat) (t : Nat → ByteArray) (w : World) (e : Ending) (w' : World) : Prop := ∃ v : Int, e = .returned (.int .i64 v) ∧ 0 ≤ v ∧ v ≤ 1048577 ∧ (v ≤ 1048576 → n ≤ 1048576 ∧ ∀ i, i < n → (t i).size ≤ 1048576) ∧ w' = w

set_option maxRecDepth 100000 in
set_option maxHeartbeats 1000000 in
theorem sb_any (T : Int) (hT : 0 ≤ T ∧ T ≤ 1099511627776) (a : Option Addr) (n c : Nat) (t : Nat → ByteArray) (w : World) (r : Rw w a n c (strs t)) :
    Calls Try.prog 32 #[.int .i64 T, .slice a n c] w fun e w' => SPost n t w e w' := by
  have R : Hid (Rw w a n c (strs t)) := r
  clear r
  by_cases h1 : T ≤ 1048576
  rotate_left
  · have k1 : (1048576 : Int) < T := by omega
    go_enter Try.func32, Try.ntmps32
    go_wp2
    go_ret
    exact ⟨1048577, rfl, by omega, by omega, by omega, rfl⟩
  have k1 : ¬ ((1048576 : Int) < T) := by omega
  by_cases h2 : n ≤ 1048576
  rotate_left
  · have k2 : (1048576 : Int) < (n : Int) := by omega
    go_enter Try.func32, Try.ntmps32
    go_wp2
    go_ret
    exact ⟨1048577, rfl, by omega, by omega, by omega, rfl⟩
  have k2 : ¬ ((1048576 : Int) < (n : Int)) := by omega
  go_enter Try.func32, Try.ntmps32
  go_wp2
  go_loop [0, 5] (fun x s => ∃ (k : Nat) (z : Int), k ≤ n ∧ s = .int .i64 k ∧ x = .int .i64 z ∧ 0 ≤ z ∧ z ≤ 33554432 ∧ ∀ i, i < k → (t i).size ≤ 1048576) (fun _ s => n - (intOf s).toNat)
  case atStart => exact ⟨0, _, Nat.zero_le _, rfl, rfl, by omega, by omega, by intro i hi; omega⟩
  case round =>
    obtain ⟨k, z, hk, rfl, rfl, hz0, hz1, hall⟩ := hrel
    have HA : Hid (∀ i, i < k → (t i).size ≤ 1048576) := hall
    clear hall
    by_cases hlt : k < n
    · have k3 : (k : Int) < (n : Int) := by omega
      by_cases hz : z ≤ 1048576
      rotate_left
      · have k4 : (1048576 : Int) < z := by omega
        go_wp2
        go_ret
        exact ⟨1048577, rfl, by omega, by omega, by omega, rfl⟩
      have k4 : ¬ ((1048576 : Int) < z) := by omega
      obtain ⟨b0, o0, rfl, lt0, d0⟩ := R.out.plain (by omega)
      have e0 : w.cell? ⟨b0, o0 + k, none⟩ = some (.string (t k)) := d0 k hlt
      clear d0
      by_cases hs : (t k).size ≤ 1048576
      rotate_left
      · have k5 : (1048576 : Int) < ((t k).size : Int) := by omega
        go_wp2
        go_ret
        exact ⟨1048577, rfl, by omega, by omega, by omega, rfl⟩
      have k5 : ¬ ((1048576 : Int) < ((t k).size : Int)) := by omega
      go_wp2
      go_round
      case rel =>
        refine ⟨k + 1, _, by omega, by go_num, rfl, by omega, by omega, fun i hi => ?_⟩
        by_cases e : i = k
        · subst e; exact hs
        · exact HA.out i (by omega)
      case measure => simp [intOf]; omega
    · obtain rfl : n = k := by omega
      have k3 : ¬ ((n : Int) < (n : Int)) := by omega
      by_cases hz : z ≤ 1048576
      · have k4 : ¬ ((1048576 : Int) < z) := by omega
        go_wp2
        go_ret
        exact ⟨z, rfl, by omega, by omega, fun _ => ⟨h2, HA.out⟩, rfl⟩
      · have k4 : (1048576 : Int) < z := by omega
        go_wp2
        go_ret
        exact ⟨1048577, rfl, by omega, by omega, by omega, rfl⟩

def TBPost (n : Nat) (t : Nat → ByteArray) (w : World) (e : Ending) (w' : World) : Prop := ∃ v : Int, e = .returned (.int .i64 v) ∧ 0 ≤ v ∧ v ≤ 1048577 ∧ (v ≤ 1048576 → n ≤ 1048576 ∧ ∀ i, i < n → (t i).size ≤ 1048576) ∧ w' = w

set_option maxRecDepth 100000 in
theorem tbytes_any (a0 a1 a2 a3 a4 : Option Addr) (n0 n1 n2 n3 n4 c0 c1 c2 c3 c4 : Nat) (t2 t3 t4 : Nat → ByteArray) (w : World) (h0 : n0 ≤ 1048576) (h1 : n1 ≤ 1048576) (r2 : Rw w a2 n2 c2 (strs t2)) (r3 : Rw w a3 n3 c3 (strs t3)) (r4 : Rw w a4 n4 c4 (strs t4)) :
    Calls Try.prog 22 #[.slice a0 n0 c0, .slice a1 n1 c1, .slice a2 n2 c2, .slice a3 n3 c3, .slice a4 n4 c4] w fun e w' => TBPost n4 t4 w e w' := by
  go_enter Try.func22, Try.ntmps22
  go_wp2_with fail
  refine (sb_any _ (by omega) a2 n2 c2 t2 _ r2).mono ?_
  rintro e w' ⟨v, rfl, hv0, hv1, -, rfl⟩
  go_wp2_with fail
  refine (sb_any _ (by omega) a3 n3 c3 t3 _ r3).mono ?_
  rintro e w' ⟨v', rfl, hv0', hv1', -, rfl⟩
  go_wp2_with fail
  refine (sb_any _ (by omega) a4 n4 c4 t4 _ r4).mono ?_
  rintro e w' ⟨v'', rfl, h2, h3, h4, rfl⟩
  have H4 : Hid (v'' ≤ 1048576 → n4 ≤ 1048576 ∧ ∀ i, i < n4 → (t4 i).size ≤ 1048576) := h4
  clear h4
  go_wp2
  go_ret
  exact ⟨v'', rfl, h2, h3, H4.out, rfl⟩
end Go.Proofs.Qxb6602967a
