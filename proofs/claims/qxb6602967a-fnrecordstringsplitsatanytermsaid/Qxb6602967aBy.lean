import Derived.Test.Qxb6602967aCl
namespace Go.Proofs.Qxb6602967a
open Go.RowKit Go.Kx
set_option linter.unusedVariables false

def SomeBool (w : World) (e : Ending) (w' : World) : Prop := ∃ b, e = .returned (.bool b) ∧ w' = w

set_option maxRecDepth 100000 in
set_option maxHeartbeats 4000000 in
theorem by_any (all : Int) (ha : Bool) (a0 a1 a2 a3 a4 a5 a6 a7 a8 a9 : Option Addr) (n0 n1 n2 n3 n4 n5 n6 n7 n8 n9 c0 c1 c2 c3 c4 c5 c6 c7 c8 c9 : Nat) (t2 t3 t4 t7 t8 t9 : Nat → ByteArray) (w : World)
    (r2 : Rw w a2 n2 c2 (strs t2)) (r3 : Rw w a3 n3 c3 (strs t3)) (r4 : Rw w a4 n4 c4 (strs t4)) (r7 : Rw w a7 n7 c7 (strs t7)) (r8 : Rw w a8 n8 c8 (strs t8)) (r9 : Rw w a9 n9 c9 (strs t9)) :
    Calls Try.prog 21 #[.slice a0 n0 c0, .slice a1 n1 c1, .slice a2 n2 c2, .slice a3 n3 c3, .slice a4 n4 c4, .slice a5 n5 c5, .slice a6 n6 c6, .slice a7 n7 c7, .slice a8 n8 c8, .slice a9 n9 c9, .int .i64 all, .bool ha] w fun e w' => SomeBool w e w' := by
  have R2 : Hid (Rw w a2 n2 c2 (strs t2)) := r2
  have R3 : Hid (Rw w a3 n3 c3 (strs t3)) := r3
  have R4 : Hid (Rw w a4 n4 c4 (strs t4)) := r4
  have R7 : Hid (Rw w a7 n7 c7 (strs t7)) := r7
  have R8 : Hid (Rw w a8 n8 c8 (strs t8)) := r8
  have R9 : Hid (Rw w a9 n9 c9 (strs t9)) := r9
  clear r2 r3 r4 r7 r8 r9
  go_enter Try.func21, Try.ntmps21
  go_wp2
  all_goals try (go_ret; exact ⟨_, rfl, rfl⟩)
  go_loop [25, 26] (fun x s => ∃ (k : Nat) (z : Int), k ≤ n2 ∧ s = .int .i64 k ∧ x = .int .i64 z) (fun _ s => n2 - (intOf s).toNat)
  case atStart => exact ⟨0, _, Nat.zero_le _, rfl, rfl⟩
  case round =>
    obtain ⟨k, z, hk, rfl, rfl⟩ := hrel
    by_cases hlt : k < n2
    · obtain ⟨b0, o0, rfl, lt0, d0⟩ := R2.out.plain (by omega)
      have e0 : w.cell? ⟨b0, o0 + k, none⟩ = some (.string (t2 k)) := d0 k hlt
      have k3 : (k : Int) < (n2 : Int) := by omega
      clear d0
      go_wp2
      all_goals try (go_ret; exact ⟨_, rfl, rfl⟩)
      go_round
      case rel => exact ⟨k + 1, _, by omega, by go_num, rfl⟩
      case measure => simp [intOf]; omega
    · obtain rfl : n2 = k := by omega
      have k3 : ¬ ((n2 : Int) < (n2 : Int)) := by omega
      go_wp2
      all_goals try (go_ret; exact ⟨_, rfl, rfl⟩)
      go_loop [25, 27] (fun x s => ∃ (k : Nat) (z : Int), k ≤ n3 ∧ s = .int .i64 k ∧ x = .int .i64 z) (fun _ s => n3 - (intOf s).toNat)
      case atStart => exact ⟨0, _, Nat.zero_le _, rfl, rfl⟩
      case round =>
        obtain ⟨k, z, hk, rfl, rfl⟩ := hrel
        by_cases hlt : k < n3
        · obtain ⟨b0, o0, rfl, lt0, d0⟩ := R3.out.plain (by omega)
          have e0 : w.cell? ⟨b0, o0 + k, none⟩ = some (.string (t3 k)) := d0 k hlt
          have k3 : (k : Int) < (n3 : Int) := by omega
          clear d0
          go_wp2
          all_goals try (go_ret; exact ⟨_, rfl, rfl⟩)
          go_round
          case rel => exact ⟨k + 1, _, by omega, by go_num, rfl⟩
          case measure => simp [intOf]; omega
        · obtain rfl : n3 = k := by omega
          have k3 : ¬ ((n3 : Int) < (n3 : Int)) := by omega
          go_wp2
          all_goals try (go_ret; exact ⟨_, rfl, rfl⟩)
          go_loop [25, 28] (fun x s => ∃ (k : Nat) (z : Int), k ≤ n4 ∧ s = .int .i64 k ∧ x = .int .i64 z) (fun _ s => n4 - (intOf s).toNat)
          case atStart => exact ⟨0, _, Nat.zero_le _, rfl, rfl⟩
          case round =>
            obtain ⟨k, z, hk, rfl, rfl⟩ := hrel
            by_cases hlt : k < n4
            · obtain ⟨b0, o0, rfl, lt0, d0⟩ := R4.out.plain (by omega)
              have e0 : w.cell? ⟨b0, o0 + k, none⟩ = some (.string (t4 k)) := d0 k hlt
              have k3 : (k : Int) < (n4 : Int) := by omega
              clear d0
              go_wp2
              all_goals try (go_ret; exact ⟨_, rfl, rfl⟩)
              go_round
              case rel => exact ⟨k + 1, _, by omega, by go_num, rfl⟩
              case measure => simp [intOf]; omega
            · obtain rfl : n4 = k := by omega
              have k3 : ¬ ((n4 : Int) < (n4 : Int)) := by omega
              go_wp2
              all_goals try (go_ret; exact ⟨_, rfl, rfl⟩)
              go_loop [25, 29] (fun x s => ∃ (k : Nat) (z : Int), k ≤ n7 ∧ s = .int .i64 k ∧ x = .int .i64 z) (fun _ s => n7 - (intOf s).toNat)
              case atStart => exact ⟨0, _, Nat.zero_le _, rfl, rfl⟩
              case round =>
                obtain ⟨k, z, hk, rfl, rfl⟩ := hrel
                by_cases hlt : k < n7
                · obtain ⟨b0, o0, rfl, lt0, d0⟩ := R7.out.plain (by omega)
                  have e0 : w.cell? ⟨b0, o0 + k, none⟩ = some (.string (t7 k)) := d0 k hlt
                  have k3 : (k : Int) < (n7 : Int) := by omega
                  clear d0
                  go_wp2
                  all_goals try (go_ret; exact ⟨_, rfl, rfl⟩)
                  go_round
                  case rel => exact ⟨k + 1, _, by omega, by go_num, rfl⟩
                  case measure => simp [intOf]; omega
                · obtain rfl : n7 = k := by omega
                  have k3 : ¬ ((n7 : Int) < (n7 : Int)) := by omega
                  go_wp2
                  all_goals try (go_ret; exact ⟨_, rfl, rfl⟩)
                  go_loop [25, 30] (fun x s => ∃ (k : Nat) (z : Int), k ≤ n8 ∧ s = .int .i64 k ∧ x = .int .i64 z) (fun _ s => n8 - (intOf s).toNat)
                  case atStart => exact ⟨0, _, Nat.zero_le _, rfl, rfl⟩
                  case round =>
                    obtain ⟨k, z, hk, rfl, rfl⟩ := hrel
                    by_cases hlt : k < n8
                    · obtain ⟨b0, o0, rfl, lt0, d0⟩ := R8.out.plain (by omega)
                      have e0 : w.cell? ⟨b0, o0 + k, none⟩ = some (.string (t8 k)) := d0 k hlt
                      have k3 : (k : Int) < (n8 : Int) := by omega
                      clear d0
                      go_wp2
                      all_goals try (go_ret; exact ⟨_, rfl, rfl⟩)
                      go_round
                      case rel => exact ⟨k + 1, _, by omega, by go_num, rfl⟩
                      case measure => simp [intOf]; omega
                    · obtain rfl : n8 = k := by omega
                      have k3 : ¬ ((n8 : Int) < (n8 : Int)) := by omega
                      go_wp2
                      all_goals try (go_ret; exact ⟨_, rfl, rfl⟩)
                      go_loop [25, 31] (fun x s => ∃ (k : Nat) (z : Int), k ≤ n9 ∧ s = .int .i64 k ∧ x = .int .i64 z) (fun _ s => n9 - (intOf s).toNat)
                      case atStart => exact ⟨0, _, Nat.zero_le _, rfl, rfl⟩
                      case round =>
                        obtain ⟨k, z, hk, rfl, rfl⟩ := hrel
                        by_cases hlt : k < n9
                        · obtain ⟨b0, o0, rfl, lt0, d0⟩ := R9.out.plain (by omega)
                          have e0 : w.cell? ⟨b0, o0 + k, none⟩ = some (.string (t9 k)) := d0 k hlt
                          have k3 : (k : Int) < (n9 : Int) := by omega
                          clear d0
                          go_wp2
                          all_goals try (go_ret; exact ⟨_, rfl, rfl⟩)
                          go_round
                          case rel => exact ⟨k + 1, _, by omega, by go_num, rfl⟩
                          case measure => simp [intOf]; omega
                        · obtain rfl : n9 = k := by omega
                          have k3 : ¬ ((n9 : Int) < (n9 : Int)) := by omega
                          go_wp2
                          all_goals go_ret
                          all_goals exact ⟨_, rfl, rfl⟩
end Go.Proofs.Qxb6602967a
