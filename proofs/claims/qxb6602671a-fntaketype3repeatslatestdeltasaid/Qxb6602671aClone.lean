import Derived.Test.Qxb6602671aProg
import Derived.WalkKit
import Derived.WalkSpells
import Derived.WalkLawsBesides
namespace Go.Proofs.Qxb6602671a
open Go.RowKit
set_option linter.unusedVariables false

theorem info5 : (Try.prog.info? 5).map (fun i => (i.zero, i.size, i.bytes)) = some (some (.int .u8 0), 1, 1) := by kernel_rfl

/-- the cells behind k rounds of the copying loop -/
def mid (zs : List Int) (k : Nat) : Array Value := ((zs.take k ++ List.replicate (zs.length - k) 0).map (Value.int .u8)).toArray

theorem mid_zero (zs : List Int) : mid zs 0 = madeCells (Value.int .u8 0).cells (zs.length * 1) := by
  apply Array.ext'
  rw [show (Value.int .u8 0).cells = #[Value.int .u8 0] from rfl, toList_madeCells_one]
  simp [mid]

theorem mid_all (zs : List Int) : mid zs zs.length = (zs.map (Value.int .u8)).toArray := by
  simp [mid]

theorem mid_set (zs : List Int) (k : Nat) (h : k < zs.length) : (mid zs k).setIfInBounds k (.int .u8 (zs.getD k 0)) = mid zs (k + 1) := by
  apply Array.ext'
  simp only [mid, Array.toList_setIfInBounds]
  apply List.ext_getElem?
  intro j
  simp only [List.getElem?_set, List.getElem?_map, List.length_map, List.length_append, List.length_take, List.length_replicate, List.getElem?_append, List.getElem?_take, List.getElem?_replicate]
  by_cases hj : j = k
  · subst hj
    simp [h, show min j zs.length + (zs.length - j) = zs.length by omega, List.getD, show j < min (j + 1) zs.length by omega]
  · by_cases h1 : j < k
    · simp [show k ≠ j by omega, show j < zs.length by omega, h1, show j < k + 1 by omega, show j < min k zs.length by omega, show j < min (k + 1) zs.length by omega]
    · simp [show k ≠ j by omega, show ¬ j < k + 1 by omega, h1, show min k zs.length = k by omega, show min (k+1) zs.length = k + 1 by omega, show (j - k < zs.length - k) ↔ (j - (k+1) < zs.length - (k+1)) by omega]

theorem mid_at (zs : List Int) (k : Nat) (h : k < zs.length) : ∃ v, (mid zs k)[k]? = some v := by
  refine ⟨(mid zs k)[k]'(by simp [mid]; omega), Array.getElem?_eq_getElem _⟩

theorem clone_nil (w : World) : Calls Try.prog 8 #[.slice none 0 0] w fun e w' => e = .returned (.slice none 0 0) ∧ w' = w := by
  have q := fun (w : World) (a : Option Addr) (n c : Nat) => Lib.run_eql_slice_nil (P := Try.prog) w 22 5 a n c 0 0 Try.underlying22
  go_enter Try.func8, Try.ntmps8
  go_wp2
  go_ret
  exact ⟨rfl, rfl⟩

set_option maxHeartbeats 400000 in
theorem clone_some (b off n c : Nat) (zs : List Int) (w : World) (hb : b < w.heap.size) (hz : zs.length = n) (hn : n ≤ 1048576)
    (hc : ∀ j, j < n → w.cell? ⟨b, off + j, none⟩ = some (.int .u8 (zs.getD j 0))) :
    Calls Try.prog 8 #[.slice (some ⟨b, off, none⟩) n c] w fun e w' => e = .returned (.slice (some ⟨w.heap.size, 0, none⟩) n n) ∧ w' = w.alloc (.cells (zs.map (Value.int .u8)).toArray 5) := by
  have q := fun (w : World) (a : Option Addr) (n c : Nat) => Lib.run_eql_slice_nil (P := Try.prog) w 22 5 a n c 0 0 Try.underlying22
  obtain ⟨i, hi, hz0, hz1, hz2⟩ := info_parts info5
  have hmk : ∀ w : World, (Instr.makeSlice 22 (.int .i64 (n : Int)) (.int .i64 (n : Int))).run Try.prog w = .ok (.slice (some ⟨w.heap.size, 0, none⟩) n n) (w.alloc (.cells (mid zs 0) 5)) := by
    intro w
    have := run_make (P := Try.prog) w 22 5 i (.int .u8 0) Try.underlying22 hi hz0 .i64 .i64 n n (by omega) (by omega) (by rw [hz2]; omega) (by omega)
    rw [this, mid_zero, hz1, hz]; simp
  clear hi hz0 hz1 hz2
  go_enter Try.func8, Try.ntmps8
  go_wp2
  go_loopw [4] (fun t wr => ∃ k : Nat, k ≤ n ∧ t = .int .i64 k ∧ wr = w.alloc (.cells (mid zs k) 5)) (fun t _ => n - (intOf t).toNat)
  case atStart => exact ⟨0, Nat.zero_le _, rfl, rfl⟩
  case round =>
    obtain ⟨k, hk, rfl, rfl⟩ := hrel
    by_cases hlt : k < n
    · have hck := hc k hlt
      have hms : Hid ((mid zs k).setIfInBounds k (.int .u8 (zs.getD k 0)) = mid zs (k + 1)) := mid_set zs k (by omega)
      obtain ⟨u, hu⟩ := mid_at zs k (by omega)
      clear hc
      go_wp2
      go_roundw
      case rel => exact ⟨k + 1, by omega, by go_num, by rw [← hms.out]; simp [List.getD, show k < zs.length by omega]⟩
      case measure => simp [intOf]; omega
    · go_wp2
      go_ret
      obtain rfl : k = n := by omega
      subst hz
      exact ⟨rfl, by rw [mid_all]⟩

end Go.Proofs.Qxb6602671a
