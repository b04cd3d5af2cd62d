import Derived.Test.Qxb6600925aEnc
namespace Go.Proofs.Qxb6600925a
open Go.RowKit
set_option linter.unusedVariables false

def setS : List UInt8 := [65, 66, 67, 68, 69, 70, 71, 72, 73, 74, 75, 76, 77, 78, 79, 80, 81, 82, 83, 84, 85, 86, 87, 88, 89, 90, 97, 98, 99, 100, 101, 102, 103, 104, 105, 106, 107, 108, 109, 110, 111, 112, 113, 114, 115, 116, 117, 118, 119, 120, 121, 122, 48, 49, 50, 51, 52, 53, 54, 55, 56, 57, 45, 46, 95, 126]

theorem setS_un : ∀ c : Fin 256, unN c.val = setS.any (fun b => b.toNat == c.val) := by decide +kernel

def setB : ByteArray := ByteArray.mk #[65, 66, 67, 68, 69, 70, 71, 72, 73, 74, 75, 76, 77, 78, 79, 80, 81, 82, 83, 84, 85, 86, 87, 88, 89, 90, 97, 98, 99, 100, 101, 102, 103, 104, 105, 106, 107, 108, 109, 110, 111, 112, 113, 114, 115, 116, 117, 118, 119, 120, 121, 122, 48, 49, 50, 51, 52, 53, 54, 55, 56, 57, 45, 46, 95, 126]
theorem setB_size : setB.size = 66 := by decide +kernel
theorem set_at (k : Nat) (h : k < setB.size) : (setB[k]'h).toNat = (setS.getD k 0).toNat := by
  have h' : k < 66 := by rw [setB_size] at h; exact h
  have : ∀ m : Fin 66, (setB[m.val]'(by rw [setB_size]; exact m.isLt)).toNat = (setS.getD m.val 0).toNat := by decide +kernel
  exact this ⟨k, h'⟩

theorem un_yes {c k : Nat} (hc : c < 256) (hk : k < 66) (h : (setS.getD k 0).toNat = c) : unN c = true := by
  rw [setS_un ⟨c, hc⟩, List.any_eq_true]
  have hk' : k < setS.length := hk
  exact ⟨setS.getD k 0, by simp [List.getD, hk'], by simpa using h⟩

theorem un_no {c : Nat} (hc : c < 256) (h : ∀ j, j < 66 → (setS.getD j 0).toNat ≠ c) : unN c = false := by
  rw [setS_un ⟨c, hc⟩, List.any_eq_false]
  intro x hx
  obtain ⟨j, hj, rfl⟩ := List.mem_iff_getElem.1 hx
  have := h j hj
  simpa [List.getD, hj] using this


set_option maxRecDepth 100000 in
set_option maxHeartbeats 1000000 in
theorem hex_any (n : Nat) (h : n < 16) (w : World) : Calls Try.prog 12 #[.int .u8 ((hexd n).toNat : Int)] w fun e w' => e = .returned (.int .i64 (n : Int)) ∧ w' = w := by
  by_cases h10 : n < 10
  · have e : (hexd n).toNat = 48 + n := by
      unfold hexd; rw [if_pos h10]
      show (48 + n) % 256 = _
      omega
    rw [e]
    go_enter Try.func12, Try.ntmps12
    go_wp2
    go_ret
    exact ⟨by go_num, rfl⟩
  · have e : (hexd n).toNat = 55 + n := by
      unfold hexd; rw [if_neg h10]
      show (55 + n) % 256 = _
      omega
    rw [e]
    go_enter Try.func12, Try.ntmps12
    go_wp2
    go_ret
    exact ⟨by go_num, rfl⟩

set_option maxRecDepth 100000 in
set_option maxHeartbeats 1000000 in
theorem un_any (c : Nat) (h : c < 256) (w : World) : Calls Try.prog 13 #[.int .u8 (c : Int)] w fun e w' => e = .returned (.bool (unN c)) ∧ w' = w := by
  go_enter Try.func13, Try.ntmps13
  go_wp2
  go_loop [3] (fun s => ∃ k : Nat, k ≤ 66 ∧ s = .int .i64 k ∧ ∀ j, j < k → (setS.getD j 0).toNat ≠ c) (fun s => 66 - (intOf s).toNat)
  case atStart => exact ⟨0, Nat.zero_le _, rfl, by intro j hj; omega⟩
  case round =>
    obtain ⟨k, hk, rfl, hne⟩ := hrel
    by_cases hlt : k < 66
    · have k1 : (k : Int) < 66 := by omega
      go_wp2_with fail
      · rename_i hq ht
        have hq1 : (((setB[k]'(by rw [setB_size]; exact hlt)).toNat : Int) == (c : Int)) = true := hq
        have hq2 : (setS.getD k 0).toNat = c := by
          rw [set_at] at hq1
          have := eq_of_beq hq1
          omega
        go_ret
        exact ⟨by rw [un_yes h hlt hq2]; rfl, rfl⟩
      · rename_i hq
        have hq1 : (((setB[k]'(by rw [setB_size]; exact hlt)).toNat : Int) == (c : Int)) = false := hq
        have hq2 : (setS.getD k 0).toNat ≠ c := by
          rw [set_at] at hq1
          intro e
          rw [e] at hq1
          simp at hq1
        refine ⟨⟨k + 1, by omega, by go_num, fun j hj => ?_⟩, by simp [intOf]; omega⟩
        by_cases e : j = k
        · subst e; exact hq2
        · exact hne j (by omega)
    · obtain rfl : k = 66 := by omega
      have hf := un_no h hne
      have HF : Hid' (unN c = false) := ⟨hf⟩
      clear hf hne
      go_wp2
      go_ret
      exact ⟨by rw [HF.out]; rfl, rfl⟩

def BOk (s : ByteArray) (w : World) (e : Ending) (w' : World) : Prop := ∃ b, e = .returned (.bool b) ∧ w' = w ∧ (b = true → s.size ≤ 1048576)

theorem bytes_any (s : ByteArray) (w : World) : Calls Try.prog 10 #[.string s] w fun e w' => BOk s w e w' := by
  by_cases h : s.size ≤ 1048576
  · have k1 : ¬ ((1048576 : Int) < (s.size : Int)) := by omega
    go_enter Try.func10, Try.ntmps10
    go_wp2
    go_ret
    exact ⟨true, rfl, rfl, fun _ => h⟩
  · have k1 : (1048576 : Int) < (s.size : Int) := by omega
    go_enter Try.func10, Try.ntmps10
    go_wp2
    go_ret
    exact ⟨false, rfl, rfl, by simp⟩

theorem zz_any (s : ByteArray) (hs : s.size ≤ 1048576) (w : World) :
    Calls Try.prog 11 #[.string s] w fun e w' => e = .returned (.string ⟨(enc s.data.toList).toArray⟩) ∧ Below w.heap.size w w' := by
  go_enter Try.func11, Try.ntmps11
  go_wp2_with fail
  refine (enc_any s hs _).mono ?_
  rintro e w2 ⟨rfl, hb⟩
  go_wp2
  go_ret
  exact ⟨rfl, hb⟩
end Go.Proofs.Qxb6600925a
