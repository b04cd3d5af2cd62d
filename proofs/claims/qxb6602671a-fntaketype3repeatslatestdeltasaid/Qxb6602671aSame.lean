import Derived.Test.Qxb6602671aClone
import Derived.Deep.QuietTactic
import Derived.BigQuiet
namespace Go.Proofs.Qxb6602671a
open Go.RowKit
set_option linter.unusedVariables false

/-- WHAT IS KNOWN OF A SLICE OF BYTES: nil; or so many numbers in a row. -/
def Bs (w : World) (a : Option Addr) (n c : Nat) (zs : List Int) : Prop :=
  zs.length = n ∧ (a = none → n = 0 ∧ c = 0) ∧ ∀ x, a = some x → ∀ j, j < n → w.cell? (x.add j) = some (.int .u8 (zs.getD j 0))

theorem Bs.later {w w' : World} {a : Option Addr} {n c : Nat} {zs : List Int} (h : Bs w a n c zs) (hb : Below w.heap.size w w') : Bs w' a n c zs :=
  ⟨h.1, h.2.1, fun x hx j hj => cell_later hb (h.2.2 x hx j hj)⟩

theorem Bs.set {w : World} {a : Option Addr} {n c : Nat} {zs : List Int} (h : Bs w a n c zs) (p : Addr) (v : Value) (hp : ∀ y, a = some y → y.block ≠ p.block) : Bs (w.setCell p v) a n c zs := by
  refine ⟨h.1, h.2.1, fun x hx j hj => ?_⟩
  have := h.2.2 x hx j hj
  have hx' := hp x hx
  rw [← this]
  refine World.cell?_of_block (heap_setCell_other w p _ v ?_)
  unfold Addr.add
  split <;> simpa using hx'

theorem Bs.plain {w : World} {x : Addr} {n c : Nat} {zs : List Int} (h : Bs w (some x) n c zs) (h0 : 0 < n) :
    ∃ b off, x = ⟨b, off, none⟩ ∧ b < w.heap.size ∧ ∀ j, j < n → w.cell? ⟨b, off + j, none⟩ = some (.int .u8 (zs.getD j 0)) := by
  obtain ⟨b, off, spot⟩ := x
  have h1 := h.2.2 _ rfl 0 h0
  have hs : spot = none := by simpa [Addr.add] using World.cell?_spot h1
  subst hs
  exact ⟨b, off, rfl, by simpa [Addr.add] using World.block_lt_of_cell? _ _ h1, fun j hj => by rw [← Addr.add_lit]; exact h.2.2 _ rfl j hj⟩

theorem clone_empty (x : Addr) (c : Nat) (w : World) :
    Calls Try.prog 8 #[.slice (some x) 0 c] w fun e w' => e = .returned (.slice (some ⟨w.heap.size, 0, none⟩) 0 0) ∧ Below w.heap.size w w' := by
  have q := fun (w : World) (a : Option Addr) (n c : Nat) => Lib.run_eql_slice_nil (P := Try.prog) w 22 5 a n c 0 0 Try.underlying22
  have hmk : ∀ w : World, (Instr.makeSlice 22 (.int .i64 0) (.int .i64 0)).run Try.prog w = .ok (.slice (some ⟨w.heap.size, 0, none⟩) 0 0) (w.alloc (.cells #[] 5)) := fun _ => by kernel_rfl
  go_enter Try.func8, Try.ntmps8
  go_wp2
  refine wp_loop_rounds 1 ?_
  rw [rounds_succ]
  go_wp2
  go_ret
  exact ⟨rfl, (Below.refl _ _).alloc (Nat.le_refl _) _⟩

theorem clone_any (a : Option Addr) (n c : Nat) (zs : List Int) (w : World) (h : Bs w a n c zs) (hn : n ≤ 1048576) :
    Calls Try.prog 8 #[.slice a n c] w fun e w' => ∃ a' c', e = .returned (.slice a' n c') ∧ Bs w' a' n c' zs ∧ a'.isNone = a.isNone ∧ (∀ y, a' = some y → y.block = w.heap.size) ∧ Below w.heap.size w w' := by
  cases a with
  | none =>
    obtain ⟨rfl, rfl⟩ := h.2.1 rfl
    refine (clone_nil w).mono ?_
    rintro e w' ⟨rfl, rfl⟩
    exact ⟨none, 0, rfl, h, rfl, by simp, Below.refl _ _⟩
  | some x =>
    by_cases h0 : n = 0
    · subst h0
      refine (clone_empty x c w).mono ?_
      rintro e w' ⟨rfl, hb⟩
      exact ⟨_, 0, rfl, ⟨h.1, by simp, fun _ _ j hj => by omega⟩, rfl, fun y hy => by obtain rfl := Option.some.inj hy; rfl, hb⟩
    · obtain ⟨b, off, rfl, hlt, hc⟩ := h.plain (by omega)
      refine (clone_some b off n c zs w hlt h.1 hn hc).mono ?_
      rintro e w' ⟨rfl, rfl⟩
      refine ⟨_, n, rfl, ⟨h.1, by simp, fun y hy j hj => ?_⟩, rfl, fun y hy => by obtain rfl := Option.some.inj hy; rfl, (Below.refl _ _).alloc (Nat.le_refl _) _⟩
      obtain rfl := Option.some.inj hy
      have hj' : j < zs.length := by rw [h.1]; exact hj
      rw [Addr.add_lit, World.cell?_alloc_at _ _ _ _ rfl]
      simp [List.getD, hj']

theorem same_none (w : World) : Calls Try.prog 18 #[.slice none 0 0, .slice none 0 0] w fun e w' => e = .returned (.bool true) ∧ Below w.heap.size w w' := by
  have q := fun (w : World) (a : Option Addr) (n c : Nat) => Lib.run_eql_slice_nil (P := Try.prog) w 22 5 a n c 0 0 Try.underlying22
  go_enter Try.func18, Try.ntmps18
  go_wp2
  refine wp_loop_rounds 1 ?_
  rw [rounds_succ]
  go_wp2
  go_ret
  exact ⟨rfl, Below.refl _ _⟩

theorem same_empty (x y : Addr) (c d : Nat) (w : World) : Calls Try.prog 18 #[.slice (some x) 0 c, .slice (some y) 0 d] w fun e w' => e = .returned (.bool true) ∧ Below w.heap.size w w' := by
  have q := fun (w : World) (a : Option Addr) (n c : Nat) => Lib.run_eql_slice_nil (P := Try.prog) w 22 5 a n c 0 0 Try.underlying22
  go_enter Try.func18, Try.ntmps18
  go_wp2
  refine wp_loop_rounds 1 ?_
  rw [rounds_succ]
  go_wp2
  go_ret
  exact ⟨rfl, Below.refl _ _⟩

set_option maxHeartbeats 400000 in
theorem same_some (b off b' off' n c d : Nat) (zs : List Int) (w : World) (hz : zs.length = n) (hn : n ≤ 1048576) (hb : b < w.heap.size) (hb' : b' < w.heap.size)
    (hc : ∀ j, j < n → w.cell? ⟨b, off + j, none⟩ = some (.int .u8 (zs.getD j 0))) (hd : ∀ j, j < n → w.cell? ⟨b', off' + j, none⟩ = some (.int .u8 (zs.getD j 0))) :
    Calls Try.prog 18 #[.slice (some ⟨b, off, none⟩) n c, .slice (some ⟨b', off', none⟩) n d] w fun e w' => e = .returned (.bool true) ∧ Below w.heap.size w w' := by
  have q := fun (w : World) (a : Option Addr) (n c : Nat) => Lib.run_eql_slice_nil (P := Try.prog) w 22 5 a n c 0 0 Try.underlying22
  have HC := hc
  have HD := hd
  clear hc hd
  go_enter Try.func18, Try.ntmps18
  go_wp2
  go_loopw [5] (fun t wr => ∃ k : Nat, k ≤ n ∧ t = .int .i64 k ∧ Below w.heap.size w wr) (fun t _ => n - (intOf t).toNat)
  case atStart => exact ⟨0, Nat.zero_le _, rfl, Below.refl _ _⟩
  case round =>
    obtain ⟨k, hk, rfl, hbel⟩ := hrel
    by_cases hlt : k < n
    · have hck := cell_later hbel (HC k hlt)
      have hdk := cell_later hbel (HD k hlt)
      clear HC HD
      go_wp2
      go_quiet (fail)
      go_wp2
      go_roundw
      case rel => exact ⟨k + 1, by omega, by go_num, below_drewN hbel _⟩
      case measure => simp [intOf]; omega
    · go_wp2
      go_ret
      exact ⟨rfl, hbel⟩

theorem same_any (a a' : Option Addr) (n c c' : Nat) (zs : List Int) (w : World) (h : Bs w a n c zs) (h' : Bs w a' n c' zs) (hn : n ≤ 1048576) (hsame : a'.isNone = a.isNone) :
    Calls Try.prog 18 #[.slice a n c, .slice a' n c'] w fun e w' => e = .returned (.bool true) ∧ Below w.heap.size w w' := by
  cases a with
  | none =>
    cases a' with
    | some _ => simp at hsame
    | none =>
      obtain ⟨rfl, rfl⟩ := h.2.1 rfl
      obtain ⟨_, rfl⟩ := h'.2.1 rfl
      exact same_none w
  | some x =>
    cases a' with
    | none => simp at hsame
    | some y =>
      by_cases h0 : n = 0
      · subst h0
        exact same_empty x y c c' w
      · obtain ⟨b, off, rfl, hlt, hc⟩ := h.plain (by omega)
        obtain ⟨b', off', rfl, hlt', hc'⟩ := h'.plain (by omega)
        exact same_some b off b' off' n c c' zs w h.1 hn hlt hlt' hc hc'

end Go.Proofs.Qxb6602671a
