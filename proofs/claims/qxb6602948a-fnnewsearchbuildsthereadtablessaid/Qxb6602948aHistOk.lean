import Derived.Test.Qxb6602948aSmall
import Derived.Test.Qxb6602948aGp
import Derived.Deep.RegionHeld3
namespace Go.Proofs.Qxb6602948a
open Go.RowKit Go.Kx
set_option linter.unusedVariables false

set_option maxHeartbeats 400000 in
theorem range_any (a : Option Addr) (n c items : Nat) (z : Nat → Int) (w : World) (h : Rw w a n c (ints .i32 z)) (b32 : ∀ j, -2147483648 ≤ z j ∧ z j ≤ 2147483647) (hn : n ≤ 1048576) (hi : items ≤ 1048576) :
    Calls Try.prog 29 #[.slice a n c, .int .i64 items] w fun e w' => Says (∀ q, q < n → 0 ≤ z q ∧ z q < (items : Int)) w e w' := by
  have HR : Hid (Rw w a n c (ints .i32 z)) := h
  have B32 : Hid (∀ j, -2147483648 ≤ z j ∧ z j ≤ 2147483647) := b32
  clear h b32
  go_enter Try.func29, Try.ntmps29
  go_wp2
  go_loop [5] (fun s => ∃ k : Nat, k ≤ n ∧ s = .int .i64 k ∧ ∀ q, q < k → 0 ≤ z q ∧ z q < (items : Int)) (fun s => n - (intOf s).toNat)
  case atStart => exact ⟨0, Nat.zero_le _, rfl, by simp⟩
  case round =>
    obtain ⟨k, hk, rfl, hq⟩ := hrel
    have HQ : Hid (∀ q, q < k → 0 ≤ z q ∧ z q < (items : Int)) := hq
    clear hq
    by_cases hlt : k < n
    · obtain ⟨bq, oq, rfl, _, d⟩ := HR.out.plain (by omega)
      have d1 := d k hlt
      have b1 := B32.out k
      have kk : (k : Int) < (n : Int) := by omega
      clear d
      by_cases h1 : z k < 0
      · go_wp2
        go_ret
        exact Says.no (Below.refl _ _)
      · have dn : decide (z k < 0) = false := decide_eq_false h1
        by_cases h2 : (items : Int) ≤ z k
        · go_wp2
          go_ret
          exact Says.no (Below.refl _ _)
        · go_wp2
          go_round
          case rel => exact ⟨k + 1, by omega, by go_num, fun q h => by rcases Nat.lt_succ_iff_lt_or_eq.1 h with h | h; exact HQ.out q h; subst h; omega⟩
          case measure => simp [intOf]; omega
    · go_wp2
      go_ret
      exact Says.yes (fun q h => HQ.out q (by omega)) (Below.refl _ _)

structure HOk (n items M W' N : Nat) (L3 L6 : Nat) (rS rI wS wI : Nat → Int) : Prop where
  len : W' = M
  rs : Starts rS L3 n M
  ws : Starts wS L6 n N
  ri : ∀ q, q < M → 0 ≤ rI q ∧ rI q < (items : Int)
  wi : ∀ q, q < N → 0 ≤ wI q ∧ wI q < (items : Int)

set_option maxRecDepth 100000 in
set_option maxHeartbeats 1000000 in
theorem histOK_any (n items : Nat) (a3 : Option Addr) (L3 c3 : Nat) (rS : Nat → Int) (a4 : Option Addr) (M c4 : Nat) (rI : Nat → Int) (a5 : Option Addr) (W' c5 : Nat) (a6 : Option Addr) (L6 c6 : Nat) (wS : Nat → Int) (a7 : Option Addr) (N c7 : Nat) (wI : Nat → Int) (w : World)
    (r3 : Rw w a3 L3 c3 (ints .i64 rS)) (r4 : Rw w a4 M c4 (ints .i32 rI)) (r6 : Rw w a6 L6 c6 (ints .i64 wS)) (r7 : Rw w a7 N c7 (ints .i32 wI))
    (b4 : ∀ j, -2147483648 ≤ rI j ∧ rI j ≤ 2147483647) (b7 : ∀ j, -2147483648 ≤ wI j ∧ wI j ≤ 2147483647)
    (ln : n ≤ 1048576) (li : items ≤ 1048576) (l3 : L3 ≤ 1048576) (l4 : M ≤ 1048576) (l5 : W' ≤ 1048576) (l6 : L6 ≤ 1048576) (l7 : N ≤ 1048576) :
    Calls Try.prog 16 #[.int .i64 n, .int .i64 items, .slice a3 L3 c3, .slice a4 M c4, .slice a5 W' c5, .slice a6 L6 c6, .slice a7 N c7] w fun e w' => Says (HOk n items M W' N L3 L6 rS rI wS wI) w e w' := by
  have R3 : Hid (Rw w a3 L3 c3 (ints .i64 rS)) := r3
  have R4 : Hid (Rw w a4 M c4 (ints .i32 rI)) := r4
  have R6 : Hid (Rw w a6 L6 c6 (ints .i64 wS)) := r6
  have R7 : Hid (Rw w a7 N c7 (ints .i32 wI)) := r7
  have B4 : Hid (∀ j, -2147483648 ≤ rI j ∧ rI j ≤ 2147483647) := b4
  have B7 : Hid (∀ j, -2147483648 ≤ wI j ∧ wI j ≤ 2147483647) := b7
  clear r3 r4 r6 r7 b4 b7
  by_cases g0 : W' = M
  rotate_left
  · have d0 : ((W' : Int) == (M : Int)) = false := by simp; omega
    go_enter Try.func16, Try.ntmps16
    go_wp2
    go_ret
    exact Says.no (Below.refl _ _)
  have d0 : ((W' : Int) == (M : Int)) = true := by simp; omega
  have G0 : Hid (W' = M) := g0
  clear g0
  go_enter Try.func16, Try.ntmps16
  go_wp2_with fail
  refine (startsOK_any a3 L3 c3 n M rS _ R3.out l3 ln l4).mono ?_
  rintro e w1 ⟨b1, rfl, q1, hb1⟩
  cases b1 with
  | false =>
    clear q1
    go_wp2
    go_ret
    exact Says.no hb1
  | true =>
  have Q1 : Hid (Starts rS L3 n M) := q1 rfl
  clear q1
  go_wp2_with fail
  refine (startsOK_any a6 L6 c6 n N wS _ (R6.out.later hb1) l6 ln l7).mono ?_
  rintro e w2 ⟨b2, rfl, q2, hb2⟩
  have hb2' := below_next hb1 hb2
  cases b2 with
  | false =>
    clear q2
    go_wp2
    go_ret
    exact Says.no hb2'
  | true =>
  have Q2 : Hid (Starts wS L6 n N) := q2 rfl
  clear q2 hb1 hb2
  go_wp2_with fail
  refine (range_any a4 M c4 items rI _ (R4.out.later hb2') B4.out l4 li).mono ?_
  rintro e w3 ⟨b3, rfl, q3, hb3⟩
  have hb3' := below_next hb2' hb3
  cases b3 with
  | false =>
    clear q3
    go_wp2
    go_ret
    exact Says.no hb3'
  | true =>
  have Q3 : Hid (∀ q, q < M → 0 ≤ rI q ∧ rI q < (items : Int)) := q3 rfl
  clear q3 hb3 hb2'
  go_wp2_with fail
  refine (range_any a7 N c7 items wI _ (R7.out.later hb3') B7.out l7 li).mono ?_
  rintro e w4 ⟨b4, rfl, q4, hb4⟩
  have hb4' := below_next hb3' hb4
  clear hb4 hb3'
  cases b4 with
  | false =>
    clear q4
    go_wp2
    go_ret
    exact Says.no hb4'
  | true =>
    have Q4 : Hid (∀ q, q < N → 0 ≤ wI q ∧ wI q < (items : Int)) := q4 rfl
    clear q4
    go_wp2
    go_ret
    exact Says.yes ⟨G0.out, Q1.out, Q2.out, Q3.out, Q4.out⟩ hb4'

/-! ### equal rows, equal lists -/
set_option maxHeartbeats 400000 in
theorem sameInts_yes (a b : Option Addr) (n c c' : Nat) (f : Nat → Int) (w : World) (h1 : Rw w a n c (ints .i64 f)) (h2 : Rw w b n c' (ints .i64 f)) (hn : n ≤ 1048576) :
    Calls Try.prog 26 #[.slice a n c, .slice b n c'] w fun e w' => e = .returned (.bool true) ∧ Below w.heap.size w w' := by
  have H1 : Hid (Rw w a n c (ints .i64 f)) := h1
  have H2 : Hid (Rw w b n c' (ints .i64 f)) := h2
  clear h1 h2
  go_enter Try.func26, Try.ntmps26
  go_wp2
  go_loopw [5] (fun t wr => ∃ k : Nat, k ≤ n ∧ t = .int .i64 k ∧ Below w.heap.size w wr) (fun t _ => n - (intOf t).toNat)
  case atStart => exact ⟨0, Nat.zero_le _, rfl, Below.refl _ _⟩
  case round =>
    obtain ⟨k, hk, rfl, hbel⟩ := hrel
    by_cases hlt : k < n
    · obtain ⟨b1, o1, rfl, _, d1⟩ := (H1.out.later hbel).plain (by omega)
      obtain ⟨b2, o2, rfl, _, d2⟩ := (H2.out.later hbel).plain (by omega)
      have e1 := d1 k hlt
      have e2 := d2 k hlt
      have kk : (k : Int) < (n : Int) := by omega
      clear d1 d2
      go_wp2
      go_quiet (fail)
      go_wp2
      go_roundw
      case rel => exact ⟨k + 1, by omega, by go_num, below_drewN hbel _⟩
      case measure => simp [intOf]; omega
    · go_wp2
      go_ret
      exact ⟨rfl, hbel⟩

theorem Lists.later {w w' : World} {a : Option Addr} {c : Nat} {ls : List (List Nat)} (h : Lists w a c ls) (hb : Below w.heap.size w w') : Lists w' a c ls :=
  ⟨h.1, h.2.1, fun x hx j hj => by
    obtain ⟨aj, cj, h1, h2⟩ := h.2.2 x hx j hj
    exact ⟨aj, cj, cell_later hb h1, h2.later hb⟩⟩

theorem Lists.plain {w : World} {a : Option Addr} {c : Nat} {ls : List (List Nat)} (h : Lists w a c ls) (h0 : 0 < ls.length) : ∃ b off, a = some ⟨b, off, none⟩ ∧
    ∀ j, j < ls.length → ∃ aj cj, w.cell? ⟨b, off + j, none⟩ = some (.slice aj (ls.getD j []).length cj) ∧ Rw w aj (ls.getD j []).length cj (fun i => natv ((ls.getD j []).getD i 0)) := by
  cases a with
  | none => have := (h.1 rfl).1; subst this; simp at h0
  | some x =>
    obtain ⟨b, off, spot⟩ := x
    obtain ⟨aj, cj, h1, _⟩ := h.2.2 _ rfl 0 h0
    have hs : spot = none := by simpa [Addr.add] using World.cell?_spot h1
    subst hs
    refine ⟨b, off, rfl, fun j hj => ?_⟩
    obtain ⟨aj, cj, h1, h2⟩ := h.2.2 _ rfl j hj
    rw [Addr.add_lit] at h1
    exact ⟨aj, cj, h1, h2⟩

set_option maxRecDepth 100000 in
set_option maxHeartbeats 1000000 in
theorem sameLists_yes (a b : Option Addr) (n c c' : Nat) (ls : List (List Nat)) (w : World) (hn : n = ls.length) (h1 : Lists w a c ls) (h2 : Lists w b c' ls) (hl : ls.length ≤ 1048576) (hll : ∀ j, j < ls.length → (ls.getD j []).length ≤ 1048576) :
    Calls Try.prog 21 #[.slice a n c, .slice b n c'] w fun e w' => e = .returned (.bool true) ∧ Below w.heap.size w w' := by
  have q := fun (w : World) (a : Option Addr) (n c : Nat) => Lib.run_eql_slice_nil (P := Try.prog) w 41 22 a n c 0 0 Try.underlying41
  have hnn : a.isNone = b.isNone := by
    cases a with
    | none => rw [h2.2.1 (h1.1 rfl).1]
    | some x => cases b with
      | none => have := h1.2.1 (h2.1 rfl).1; simp at this
      | some y => rfl
  obtain ⟨β, ha⟩ : ∃ β, a.isNone = β := ⟨_, rfl⟩
  have hb : b.isNone = β := by rw [← hnn, ha]
  have H1 : Hid (Lists w a c ls) := h1
  have H2 : Hid (Lists w b c' ls) := h2
  have HN : Hid (n = ls.length) := hn
  have HL : Hid (∀ j, j < ls.length → (ls.getD j []).length ≤ 1048576) := hll
  have hn' : n ≤ 1048576 := by omega
  clear h1 h2 hn hnn hll
  go_enter Try.func21, Try.ntmps21
  go_wp2
  go_loopw [5] (fun t wr => ∃ k : Nat, k ≤ n ∧ t = .int .i64 k ∧ Below w.heap.size w wr) (fun t _ => n - (intOf t).toNat)
  case atStart => exact ⟨0, Nat.zero_le _, rfl, Below.refl _ _⟩
  case round =>
    obtain ⟨k, hk, rfl, hbel⟩ := hrel
    by_cases hlt : k < n
    · obtain ⟨b1, o1, rfl, d1⟩ := (H1.out.later hbel).plain (by have := HN.out; omega)
      obtain ⟨b2, o2, rfl, d2⟩ := (H2.out.later hbel).plain (by have := HN.out; omega)
      obtain ⟨x1, y1, e1, f1⟩ := d1 k (by have := HN.out; omega)
      obtain ⟨x2, y2, e2, f2⟩ := d2 k (by have := HN.out; omega)
      have hm := HL.out k (by have := HN.out; omega)
      have kk : (k : Int) < (n : Int) := by omega
      obtain ⟨m, hmm⟩ : ∃ m, m = (ls.getD k []).length := ⟨_, rfl⟩
      rw [← hmm] at e1 e2 f1 f2 hm
      clear d1 d2
      have F1 : Hid (Rw wr x1 m y1 (fun i => natv ((ls.getD k []).getD i 0))) := f1
      have F2 : Hid (Rw wr x2 m y2 (fun i => natv ((ls.getD k []).getD i 0))) := f2
      clear f1 f2 hmm
      go_wp2
      go_region_held3 (fun w' => w'.cell? ⟨b1, o1 + k, none⟩ = some (.slice x1 m y1) ∧ w'.cell? ⟨b2, o2 + k, none⟩ = some (.slice x2 m y2)) (first | go_keep | (exact ⟨cell_later hb9 e1, cell_later hb9 e2⟩)) ((go_at_call 26; refine (sameInts_yes x1 x2 m y1 y2 (fun i => (((ls.getD k []).getD i 0 : Nat) : Int)) _ (by exact F1.out) (by exact F2.out) hm).mono ?_; rintro e w9 ⟨rfl, hb9⟩))
      go_wp2
      go_roundw
      case rel => exact ⟨k + 1, by omega, by go_num, below_next hbel (below_next (Below.refl _ _).drew hb9)⟩
      case measure => simp [intOf]; omega
    · go_wp2
      go_ret
      exact ⟨rfl, hbel⟩

end Go.Proofs.Qxb6602948a
