import Derived.Test.Qxb6600925aBld
namespace Go.Proofs.Qxb6600925a
open Go.RowKit
set_option linter.unusedVariables false

structure Hid' (p : Prop) : Prop where
  out : p

def unN (x : Nat) : Bool := (97 ≤ x && x ≤ 122) || (65 ≤ x && x ≤ 90) || (48 ≤ x && x ≤ 57) || x == 45 || x == 46 || x == 95 || x == 126
def hexd (n : Nat) : UInt8 := if n < 10 then (48 + n).toUInt8 else (55 + n).toUInt8
def encB (c : UInt8) : List UInt8 := if unN c.toNat then [c] else [37, hexd (c.toNat / 16), hexd (c.toNat % 16)]
def enc (l : List UInt8) : List UInt8 := l.flatMap encB

theorem hex_at (n : Nat) (h : n < (ByteArray.mk #[48, 49, 50, 51, 52, 53, 54, 55, 56, 57, 65, 66, 67, 68, 69, 70]).size) : ((ByteArray.mk #[48, 49, 50, 51, 52, 53, 54, 55, 56, 57, 65, 66, 67, 68, 69, 70])[n]'h).toNat = (hexd n).toNat := by
  have h' : n < 16 := h
  have : ∀ m : Fin 16, ((ByteArray.mk #[48, 49, 50, 51, 52, 53, 54, 55, 56, 57, 65, 66, 67, 68, 69, 70])[m.val]'m.isLt).toNat = (hexd m.val).toNat := by decide
  exact this ⟨n, h'⟩

theorem encB_len (c : UInt8) : 1 ≤ (encB c).length ∧ (encB c).length ≤ 3 := by
  unfold encB
  cases unN c.toNat <;> simp

theorem enc_len : ∀ l : List UInt8, (enc l).length ≤ 3 * l.length
  | [] => by simp [enc]
  | c :: l => by
    have h1 := (encB_len c).2
    have h2 := enc_len l
    have : enc (c :: l) = encB c ++ enc l := rfl
    rw [this, List.length_append, List.length_cons]
    omega

theorem enc_append (a b : List UInt8) : enc (a ++ b) = enc a ++ enc b := by simp [enc]

theorem take_bytes (s : ByteArray) (k : Nat) (h : k < s.size) : s.data.toList.take (k + 1) = s.data.toList.take k ++ [s[k]'h] := by
  rw [List.take_add_one]
  have : s.data.toList[k]? = some (s[k]'h) := by
    have h' : k < s.data.size := h
    rw [List.getElem?_eq_getElem (by simpa using h')]
    rfl
  rw [this]; rfl

theorem enc_step (s : ByteArray) (k : Nat) (h : k < s.size) : enc (s.data.toList.take (k + 1)) = enc (s.data.toList.take k) ++ encB (s[k]'h) := by
  rw [take_bytes s k h, enc_append]; simp [enc]

theorem enc_take_len (s : ByteArray) (k : Nat) : (enc (s.data.toList.take k)).length ≤ 3 * k := by
  refine Nat.le_trans (enc_len _) ?_
  rw [List.length_take]; omega

theorem cells_un (s : ByteArray) (k : Nat) (h : k < s.size) (hu : unN (s[k]'h).toNat = true) :
    Lib.byteCells (enc (s.data.toList.take k)) ++ [.int .u8 ((s[k]'h).toNat : Int)] = Lib.byteCells (enc (s.data.toList.take (k + 1))) := by
  rw [enc_step s k h, encB, if_pos hu, Lib.byteCells_append]; rfl

theorem cells_esc (s : ByteArray) (k : Nat) (h : k < s.size) (hu : unN (s[k]'h).toNat = false) (a b : Nat) (ha : a = (hexd ((s[k]'h).toNat / 16)).toNat) (hb : b = (hexd ((s[k]'h).toNat % 16)).toNat) :
    Lib.byteCells (enc (s.data.toList.take k)) ++ [.int .u8 37] ++ [.int .u8 (a : Int)] ++ [.int .u8 (b : Int)] = Lib.byteCells (enc (s.data.toList.take (k + 1))) := by
  subst ha hb
  rw [enc_step s k h, encB, hu, Lib.byteCells_append]; simp [Lib.byteCells]

theorem ivs (x : Nat) (h : x < 256) : (x < 45) ∨ (45 ≤ x ∧ x ≤ 45) ∨ (46 ≤ x ∧ x ≤ 46) ∨ (47 ≤ x ∧ x ≤ 47) ∨ (48 ≤ x ∧ x ≤ 57) ∨ (58 ≤ x ∧ x ≤ 64) ∨ (65 ≤ x ∧ x ≤ 90) ∨ (91 ≤ x ∧ x ≤ 94) ∨ (95 ≤ x ∧ x ≤ 95) ∨ (96 ≤ x ∧ x ≤ 96) ∨ (97 ≤ x ∧ x ≤ 122) ∨ (123 ≤ x ∧ x ≤ 125) ∨ (126 ≤ x ∧ x ≤ 126) ∨ (127 ≤ x ∧ x < 256) := by omega

set_option maxRecDepth 100000 in
set_option maxHeartbeats 4000000 in
theorem enc_any (s : ByteArray) (hs : s.size ≤ 1048576) (w : World) :
    Calls Try.prog 25 #[.string s] w fun e w' => e = .returned (.string ⟨(enc s.data.toList).toArray⟩) ∧ Below w.heap.size w w' := by
  go_enter Try.func25, Try.ntmps25
  go_wp2
  go_loopw [4] (fun t wr => ∃ k : Nat, k ≤ s.size ∧ t = .int .i64 k ∧ Lib.IsBuilder 46 5 w.heap.size w.heap.size (Lib.byteCells (enc (s.data.toList.take k))) wr ∧ Below w.heap.size w wr) (fun t _ => s.size - (intOf t).toNat)
  case atStart => exact ⟨0, Nat.zero_le _, rfl, Lib.fresh_isBuilder 46 5 w, (Below.refl _ w).alloc (Nat.le_refl _) _⟩
  case round =>
    obtain ⟨k, hk, rfl, hI, hb⟩ := hrel
    obtain ⟨w1, hw1⟩ : ∃ w1, w1 = wr := ⟨_, rfl⟩
    subst hw1
    have hel : (Lib.byteCells (enc (s.data.toList.take k))).length ≤ 3 * k := by rw [Lib.byteCells_length]; exact enc_take_len s k
    by_cases hlt : k < s.size
    · have k1 : (k : Int) < (s.size : Int) := by omega
      have hx := ivs (s[k]'hlt).toNat (UInt8.toNat_lt _)
      rcases hx with hx | hx | hx | hx | hx | hx | hx | hx | hx | hx | hx | hx | hx | hx
      · have a0 : ¬ ((97 : Int) ≤ ((s[k]'hlt).toNat : Int)) := by omega
        have a1 : ¬ ((65 : Int) ≤ ((s[k]'hlt).toNat : Int)) := by omega
        have a2 : ¬ ((48 : Int) ≤ ((s[k]'hlt).toNat : Int)) := by omega
        have c45 : (((s[k]'hlt).toNat : Int) == 45) = false := by simp; omega
        have c46 : (((s[k]'hlt).toNat : Int) == 46) = false := by simp; omega
        have c95 : (((s[k]'hlt).toNat : Int) == 95) = false := by simp; omega
        have c126 : (((s[k]'hlt).toNat : Int) == 126) = false := by simp; omega
        have hu : Hid' (unN (s[k]'hlt).toNat = false) := ⟨by simp [unN]; omega⟩
        go_wp2_with fail
        refine (writeByte_any w.heap.size w.heap.size _ 37 _ hI (by omega) hb.size).mono ?_
        rintro e w2 ⟨rfl, hI2, hb2⟩
        go_wp2_with fail
        refine (writeByte_any w.heap.size w.heap.size _ _ _ hI2 (by simp only [List.length_append, List.length_singleton]; omega) (hb.trans hb2).size).mono ?_
        rintro e w3 ⟨rfl, hI3, hb3⟩
        go_wp2_with fail
        refine (writeByte_any w.heap.size w.heap.size _ _ _ hI3 (by simp only [List.length_append, List.length_singleton]; omega) ((hb.trans hb2).trans hb3).size).mono ?_
        rintro e w4 ⟨rfl, hI4, hb4⟩
        rw [cells_esc s k hlt hu.out _ _ (hex_at _ _) (hex_at _ _)] at hI4
        have hb5 := ((hb.trans hb2).trans hb3).trans hb4
        go_wp2
        go_roundw
        case rel => exact ⟨k + 1, by omega, by go_num, hI4, hb5⟩
        case measure => simp [intOf]; omega
      · have a0 : ¬ ((97 : Int) ≤ ((s[k]'hlt).toNat : Int)) := by omega
        have a1 : ¬ ((65 : Int) ≤ ((s[k]'hlt).toNat : Int)) := by omega
        have a2 : ¬ ((48 : Int) ≤ ((s[k]'hlt).toNat : Int)) := by omega
        have c45 : (((s[k]'hlt).toNat : Int) == 45) = true := by simp; omega
        have c46 : (((s[k]'hlt).toNat : Int) == 46) = false := by simp; omega
        have c95 : (((s[k]'hlt).toNat : Int) == 95) = false := by simp; omega
        have c126 : (((s[k]'hlt).toNat : Int) == 126) = false := by simp; omega
        have hu : Hid' (unN (s[k]'hlt).toNat = true) := ⟨by simp [unN]; omega⟩
        go_wp2_with fail
        refine (writeByte_any w.heap.size w.heap.size _ _ _ hI (by omega) hb.size).mono ?_
        rintro e w2 ⟨rfl, hI2, hb2⟩
        rw [cells_un s k hlt hu.out] at hI2
        have hb3 := hb.trans hb2
        go_wp2
        go_roundw
        case rel => exact ⟨k + 1, by omega, by go_num, hI2, hb3⟩
        case measure => simp [intOf]; omega
      · have a0 : ¬ ((97 : Int) ≤ ((s[k]'hlt).toNat : Int)) := by omega
        have a1 : ¬ ((65 : Int) ≤ ((s[k]'hlt).toNat : Int)) := by omega
        have a2 : ¬ ((48 : Int) ≤ ((s[k]'hlt).toNat : Int)) := by omega
        have c45 : (((s[k]'hlt).toNat : Int) == 45) = false := by simp; omega
        have c46 : (((s[k]'hlt).toNat : Int) == 46) = true := by simp; omega
        have c95 : (((s[k]'hlt).toNat : Int) == 95) = false := by simp; omega
        have c126 : (((s[k]'hlt).toNat : Int) == 126) = false := by simp; omega
        have hu : Hid' (unN (s[k]'hlt).toNat = true) := ⟨by simp [unN]; omega⟩
        go_wp2_with fail
        refine (writeByte_any w.heap.size w.heap.size _ _ _ hI (by omega) hb.size).mono ?_
        rintro e w2 ⟨rfl, hI2, hb2⟩
        rw [cells_un s k hlt hu.out] at hI2
        have hb3 := hb.trans hb2
        go_wp2
        go_roundw
        case rel => exact ⟨k + 1, by omega, by go_num, hI2, hb3⟩
        case measure => simp [intOf]; omega
      · have a0 : ¬ ((97 : Int) ≤ ((s[k]'hlt).toNat : Int)) := by omega
        have a1 : ¬ ((65 : Int) ≤ ((s[k]'hlt).toNat : Int)) := by omega
        have a2 : ¬ ((48 : Int) ≤ ((s[k]'hlt).toNat : Int)) := by omega
        have c45 : (((s[k]'hlt).toNat : Int) == 45) = false := by simp; omega
        have c46 : (((s[k]'hlt).toNat : Int) == 46) = false := by simp; omega
        have c95 : (((s[k]'hlt).toNat : Int) == 95) = false := by simp; omega
        have c126 : (((s[k]'hlt).toNat : Int) == 126) = false := by simp; omega
        have hu : Hid' (unN (s[k]'hlt).toNat = false) := ⟨by simp [unN]; omega⟩
        go_wp2_with fail
        refine (writeByte_any w.heap.size w.heap.size _ 37 _ hI (by omega) hb.size).mono ?_
        rintro e w2 ⟨rfl, hI2, hb2⟩
        go_wp2_with fail
        refine (writeByte_any w.heap.size w.heap.size _ _ _ hI2 (by simp only [List.length_append, List.length_singleton]; omega) (hb.trans hb2).size).mono ?_
        rintro e w3 ⟨rfl, hI3, hb3⟩
        go_wp2_with fail
        refine (writeByte_any w.heap.size w.heap.size _ _ _ hI3 (by simp only [List.length_append, List.length_singleton]; omega) ((hb.trans hb2).trans hb3).size).mono ?_
        rintro e w4 ⟨rfl, hI4, hb4⟩
        rw [cells_esc s k hlt hu.out _ _ (hex_at _ _) (hex_at _ _)] at hI4
        have hb5 := ((hb.trans hb2).trans hb3).trans hb4
        go_wp2
        go_roundw
        case rel => exact ⟨k + 1, by omega, by go_num, hI4, hb5⟩
        case measure => simp [intOf]; omega
      · have a0 : ¬ ((97 : Int) ≤ ((s[k]'hlt).toNat : Int)) := by omega
        have a1 : ¬ ((65 : Int) ≤ ((s[k]'hlt).toNat : Int)) := by omega
        have a2 : (48 : Int) ≤ ((s[k]'hlt).toNat : Int) := by omega
        have b2 : ((s[k]'hlt).toNat : Int) ≤ (57 : Int) := by omega
        have c45 : (((s[k]'hlt).toNat : Int) == 45) = false := by simp; omega
        have c46 : (((s[k]'hlt).toNat : Int) == 46) = false := by simp; omega
        have c95 : (((s[k]'hlt).toNat : Int) == 95) = false := by simp; omega
        have c126 : (((s[k]'hlt).toNat : Int) == 126) = false := by simp; omega
        have hu : Hid' (unN (s[k]'hlt).toNat = true) := ⟨by simp [unN]; omega⟩
        go_wp2_with fail
        refine (writeByte_any w.heap.size w.heap.size _ _ _ hI (by omega) hb.size).mono ?_
        rintro e w2 ⟨rfl, hI2, hb2⟩
        rw [cells_un s k hlt hu.out] at hI2
        have hb3 := hb.trans hb2
        go_wp2
        go_roundw
        case rel => exact ⟨k + 1, by omega, by go_num, hI2, hb3⟩
        case measure => simp [intOf]; omega
      · have a0 : ¬ ((97 : Int) ≤ ((s[k]'hlt).toNat : Int)) := by omega
        have a1 : ¬ ((65 : Int) ≤ ((s[k]'hlt).toNat : Int)) := by omega
        have a2 : (48 : Int) ≤ ((s[k]'hlt).toNat : Int) := by omega
        have b2 : ¬ (((s[k]'hlt).toNat : Int) ≤ (57 : Int)) := by omega
        have c45 : (((s[k]'hlt).toNat : Int) == 45) = false := by simp; omega
        have c46 : (((s[k]'hlt).toNat : Int) == 46) = false := by simp; omega
        have c95 : (((s[k]'hlt).toNat : Int) == 95) = false := by simp; omega
        have c126 : (((s[k]'hlt).toNat : Int) == 126) = false := by simp; omega
        have hu : Hid' (unN (s[k]'hlt).toNat = false) := ⟨by simp [unN]; omega⟩
        go_wp2_with fail
        refine (writeByte_any w.heap.size w.heap.size _ 37 _ hI (by omega) hb.size).mono ?_
        rintro e w2 ⟨rfl, hI2, hb2⟩
        go_wp2_with fail
        refine (writeByte_any w.heap.size w.heap.size _ _ _ hI2 (by simp only [List.length_append, List.length_singleton]; omega) (hb.trans hb2).size).mono ?_
        rintro e w3 ⟨rfl, hI3, hb3⟩
        go_wp2_with fail
        refine (writeByte_any w.heap.size w.heap.size _ _ _ hI3 (by simp only [List.length_append, List.length_singleton]; omega) ((hb.trans hb2).trans hb3).size).mono ?_
        rintro e w4 ⟨rfl, hI4, hb4⟩
        rw [cells_esc s k hlt hu.out _ _ (hex_at _ _) (hex_at _ _)] at hI4
        have hb5 := ((hb.trans hb2).trans hb3).trans hb4
        go_wp2
        go_roundw
        case rel => exact ⟨k + 1, by omega, by go_num, hI4, hb5⟩
        case measure => simp [intOf]; omega
      · have a0 : ¬ ((97 : Int) ≤ ((s[k]'hlt).toNat : Int)) := by omega
        have a1 : (65 : Int) ≤ ((s[k]'hlt).toNat : Int) := by omega
        have b1 : ((s[k]'hlt).toNat : Int) ≤ (90 : Int) := by omega
        have a2 : (48 : Int) ≤ ((s[k]'hlt).toNat : Int) := by omega
        have b2 : ¬ (((s[k]'hlt).toNat : Int) ≤ (57 : Int)) := by omega
        have c45 : (((s[k]'hlt).toNat : Int) == 45) = false := by simp; omega
        have c46 : (((s[k]'hlt).toNat : Int) == 46) = false := by simp; omega
        have c95 : (((s[k]'hlt).toNat : Int) == 95) = false := by simp; omega
        have c126 : (((s[k]'hlt).toNat : Int) == 126) = false := by simp; omega
        have hu : Hid' (unN (s[k]'hlt).toNat = true) := ⟨by simp [unN]; omega⟩
        go_wp2_with fail
        refine (writeByte_any w.heap.size w.heap.size _ _ _ hI (by omega) hb.size).mono ?_
        rintro e w2 ⟨rfl, hI2, hb2⟩
        rw [cells_un s k hlt hu.out] at hI2
        have hb3 := hb.trans hb2
        go_wp2
        go_roundw
        case rel => exact ⟨k + 1, by omega, by go_num, hI2, hb3⟩
        case measure => simp [intOf]; omega
      · have a0 : ¬ ((97 : Int) ≤ ((s[k]'hlt).toNat : Int)) := by omega
        have a1 : (65 : Int) ≤ ((s[k]'hlt).toNat : Int) := by omega
        have b1 : ¬ (((s[k]'hlt).toNat : Int) ≤ (90 : Int)) := by omega
        have a2 : (48 : Int) ≤ ((s[k]'hlt).toNat : Int) := by omega
        have b2 : ¬ (((s[k]'hlt).toNat : Int) ≤ (57 : Int)) := by omega
        have c45 : (((s[k]'hlt).toNat : Int) == 45) = false := by simp; omega
        have c46 : (((s[k]'hlt).toNat : Int) == 46) = false := by simp; omega
        have c95 : (((s[k]'hlt).toNat : Int) == 95) = false := by simp; omega
        have c126 : (((s[k]'hlt).toNat : Int) == 126) = false := by simp; omega
        have hu : Hid' (unN (s[k]'hlt).toNat = false) := ⟨by simp [unN]; omega⟩
        go_wp2_with fail
        refine (writeByte_any w.heap.size w.heap.size _ 37 _ hI (by omega) hb.size).mono ?_
        rintro e w2 ⟨rfl, hI2, hb2⟩
        go_wp2_with fail
        refine (writeByte_any w.heap.size w.heap.size _ _ _ hI2 (by simp only [List.length_append, List.length_singleton]; omega) (hb.trans hb2).size).mono ?_
        rintro e w3 ⟨rfl, hI3, hb3⟩
        go_wp2_with fail
        refine (writeByte_any w.heap.size w.heap.size _ _ _ hI3 (by simp only [List.length_append, List.length_singleton]; omega) ((hb.trans hb2).trans hb3).size).mono ?_
        rintro e w4 ⟨rfl, hI4, hb4⟩
        rw [cells_esc s k hlt hu.out _ _ (hex_at _ _) (hex_at _ _)] at hI4
        have hb5 := ((hb.trans hb2).trans hb3).trans hb4
        go_wp2
        go_roundw
        case rel => exact ⟨k + 1, by omega, by go_num, hI4, hb5⟩
        case measure => simp [intOf]; omega
      · have a0 : ¬ ((97 : Int) ≤ ((s[k]'hlt).toNat : Int)) := by omega
        have a1 : (65 : Int) ≤ ((s[k]'hlt).toNat : Int) := by omega
        have b1 : ¬ (((s[k]'hlt).toNat : Int) ≤ (90 : Int)) := by omega
        have a2 : (48 : Int) ≤ ((s[k]'hlt).toNat : Int) := by omega
        have b2 : ¬ (((s[k]'hlt).toNat : Int) ≤ (57 : Int)) := by omega
        have c45 : (((s[k]'hlt).toNat : Int) == 45) = false := by simp; omega
        have c46 : (((s[k]'hlt).toNat : Int) == 46) = false := by simp; omega
        have c95 : (((s[k]'hlt).toNat : Int) == 95) = true := by simp; omega
        have c126 : (((s[k]'hlt).toNat : Int) == 126) = false := by simp; omega
        have hu : Hid' (unN (s[k]'hlt).toNat = true) := ⟨by simp [unN]; omega⟩
        go_wp2_with fail
        refine (writeByte_any w.heap.size w.heap.size _ _ _ hI (by omega) hb.size).mono ?_
        rintro e w2 ⟨rfl, hI2, hb2⟩
        rw [cells_un s k hlt hu.out] at hI2
        have hb3 := hb.trans hb2
        go_wp2
        go_roundw
        case rel => exact ⟨k + 1, by omega, by go_num, hI2, hb3⟩
        case measure => simp [intOf]; omega
      · have a0 : ¬ ((97 : Int) ≤ ((s[k]'hlt).toNat : Int)) := by omega
        have a1 : (65 : Int) ≤ ((s[k]'hlt).toNat : Int) := by omega
        have b1 : ¬ (((s[k]'hlt).toNat : Int) ≤ (90 : Int)) := by omega
        have a2 : (48 : Int) ≤ ((s[k]'hlt).toNat : Int) := by omega
        have b2 : ¬ (((s[k]'hlt).toNat : Int) ≤ (57 : Int)) := by omega
        have c45 : (((s[k]'hlt).toNat : Int) == 45) = false := by simp; omega
        have c46 : (((s[k]'hlt).toNat : Int) == 46) = false := by simp; omega
        have c95 : (((s[k]'hlt).toNat : Int) == 95) = false := by simp; omega
        have c126 : (((s[k]'hlt).toNat : Int) == 126) = false := by simp; omega
        have hu : Hid' (unN (s[k]'hlt).toNat = false) := ⟨by simp [unN]; omega⟩
        go_wp2_with fail
        refine (writeByte_any w.heap.size w.heap.size _ 37 _ hI (by omega) hb.size).mono ?_
        rintro e w2 ⟨rfl, hI2, hb2⟩
        go_wp2_with fail
        refine (writeByte_any w.heap.size w.heap.size _ _ _ hI2 (by simp only [List.length_append, List.length_singleton]; omega) (hb.trans hb2).size).mono ?_
        rintro e w3 ⟨rfl, hI3, hb3⟩
        go_wp2_with fail
        refine (writeByte_any w.heap.size w.heap.size _ _ _ hI3 (by simp only [List.length_append, List.length_singleton]; omega) ((hb.trans hb2).trans hb3).size).mono ?_
        rintro e w4 ⟨rfl, hI4, hb4⟩
        rw [cells_esc s k hlt hu.out _ _ (hex_at _ _) (hex_at _ _)] at hI4
        have hb5 := ((hb.trans hb2).trans hb3).trans hb4
        go_wp2
        go_roundw
        case rel => exact ⟨k + 1, by omega, by go_num, hI4, hb5⟩
        case measure => simp [intOf]; omega
      · have a0 : (97 : Int) ≤ ((s[k]'hlt).toNat : Int) := by omega
        have b0 : ((s[k]'hlt).toNat : Int) ≤ (122 : Int) := by omega
        have a1 : (65 : Int) ≤ ((s[k]'hlt).toNat : Int) := by omega
        have b1 : ¬ (((s[k]'hlt).toNat : Int) ≤ (90 : Int)) := by omega
        have a2 : (48 : Int) ≤ ((s[k]'hlt).toNat : Int) := by omega
        have b2 : ¬ (((s[k]'hlt).toNat : Int) ≤ (57 : Int)) := by omega
        have c45 : (((s[k]'hlt).toNat : Int) == 45) = false := by simp; omega
        have c46 : (((s[k]'hlt).toNat : Int) == 46) = false := by simp; omega
        have c95 : (((s[k]'hlt).toNat : Int) == 95) = false := by simp; omega
        have c126 : (((s[k]'hlt).toNat : Int) == 126) = false := by simp; omega
        have hu : Hid' (unN (s[k]'hlt).toNat = true) := ⟨by simp [unN]; omega⟩
        go_wp2_with fail
        refine (writeByte_any w.heap.size w.heap.size _ _ _ hI (by omega) hb.size).mono ?_
        rintro e w2 ⟨rfl, hI2, hb2⟩
        rw [cells_un s k hlt hu.out] at hI2
        have hb3 := hb.trans hb2
        go_wp2
        go_roundw
        case rel => exact ⟨k + 1, by omega, by go_num, hI2, hb3⟩
        case measure => simp [intOf]; omega
      · have a0 : (97 : Int) ≤ ((s[k]'hlt).toNat : Int) := by omega
        have b0 : ¬ (((s[k]'hlt).toNat : Int) ≤ (122 : Int)) := by omega
        have a1 : (65 : Int) ≤ ((s[k]'hlt).toNat : Int) := by omega
        have b1 : ¬ (((s[k]'hlt).toNat : Int) ≤ (90 : Int)) := by omega
        have a2 : (48 : Int) ≤ ((s[k]'hlt).toNat : Int) := by omega
        have b2 : ¬ (((s[k]'hlt).toNat : Int) ≤ (57 : Int)) := by omega
        have c45 : (((s[k]'hlt).toNat : Int) == 45) = false := by simp; omega
        have c46 : (((s[k]'hlt).toNat : Int) == 46) = false := by simp; omega
        have c95 : (((s[k]'hlt).toNat : Int) == 95) = false := by simp; omega
        have c126 : (((s[k]'hlt).toNat : Int) == 126) = false := by simp; omega
        have hu : Hid' (unN (s[k]'hlt).toNat = false) := ⟨by simp [unN]; omega⟩
        go_wp2_with fail
        refine (writeByte_any w.heap.size w.heap.size _ 37 _ hI (by omega) hb.size).mono ?_
        rintro e w2 ⟨rfl, hI2, hb2⟩
        go_wp2_with fail
        refine (writeByte_any w.heap.size w.heap.size _ _ _ hI2 (by simp only [List.length_append, List.length_singleton]; omega) (hb.trans hb2).size).mono ?_
        rintro e w3 ⟨rfl, hI3, hb3⟩
        go_wp2_with fail
        refine (writeByte_any w.heap.size w.heap.size _ _ _ hI3 (by simp only [List.length_append, List.length_singleton]; omega) ((hb.trans hb2).trans hb3).size).mono ?_
        rintro e w4 ⟨rfl, hI4, hb4⟩
        rw [cells_esc s k hlt hu.out _ _ (hex_at _ _) (hex_at _ _)] at hI4
        have hb5 := ((hb.trans hb2).trans hb3).trans hb4
        go_wp2
        go_roundw
        case rel => exact ⟨k + 1, by omega, by go_num, hI4, hb5⟩
        case measure => simp [intOf]; omega
      · have a0 : (97 : Int) ≤ ((s[k]'hlt).toNat : Int) := by omega
        have b0 : ¬ (((s[k]'hlt).toNat : Int) ≤ (122 : Int)) := by omega
        have a1 : (65 : Int) ≤ ((s[k]'hlt).toNat : Int) := by omega
        have b1 : ¬ (((s[k]'hlt).toNat : Int) ≤ (90 : Int)) := by omega
        have a2 : (48 : Int) ≤ ((s[k]'hlt).toNat : Int) := by omega
        have b2 : ¬ (((s[k]'hlt).toNat : Int) ≤ (57 : Int)) := by omega
        have c45 : (((s[k]'hlt).toNat : Int) == 45) = false := by simp; omega
        have c46 : (((s[k]'hlt).toNat : Int) == 46) = false := by simp; omega
        have c95 : (((s[k]'hlt).toNat : Int) == 95) = false := by simp; omega
        have c126 : (((s[k]'hlt).toNat : Int) == 126) = true := by simp; omega
        have hu : Hid' (unN (s[k]'hlt).toNat = true) := ⟨by simp [unN]; omega⟩
        go_wp2_with fail
        refine (writeByte_any w.heap.size w.heap.size _ _ _ hI (by omega) hb.size).mono ?_
        rintro e w2 ⟨rfl, hI2, hb2⟩
        rw [cells_un s k hlt hu.out] at hI2
        have hb3 := hb.trans hb2
        go_wp2
        go_roundw
        case rel => exact ⟨k + 1, by omega, by go_num, hI2, hb3⟩
        case measure => simp [intOf]; omega
      · have a0 : (97 : Int) ≤ ((s[k]'hlt).toNat : Int) := by omega
        have b0 : ¬ (((s[k]'hlt).toNat : Int) ≤ (122 : Int)) := by omega
        have a1 : (65 : Int) ≤ ((s[k]'hlt).toNat : Int) := by omega
        have b1 : ¬ (((s[k]'hlt).toNat : Int) ≤ (90 : Int)) := by omega
        have a2 : (48 : Int) ≤ ((s[k]'hlt).toNat : Int) := by omega
        have b2 : ¬ (((s[k]'hlt).toNat : Int) ≤ (57 : Int)) := by omega
        have c45 : (((s[k]'hlt).toNat : Int) == 45) = false := by simp; omega
        have c46 : (((s[k]'hlt).toNat : Int) == 46) = false := by simp; omega
        have c95 : (((s[k]'hlt).toNat : Int) == 95) = false := by simp; omega
        have c126 : (((s[k]'hlt).toNat : Int) == 126) = false := by simp; omega
        have hu : Hid' (unN (s[k]'hlt).toNat = false) := ⟨by simp [unN]; omega⟩
        go_wp2_with fail
        refine (writeByte_any w.heap.size w.heap.size _ 37 _ hI (by omega) hb.size).mono ?_
        rintro e w2 ⟨rfl, hI2, hb2⟩
        go_wp2_with fail
        refine (writeByte_any w.heap.size w.heap.size _ _ _ hI2 (by simp only [List.length_append, List.length_singleton]; omega) (hb.trans hb2).size).mono ?_
        rintro e w3 ⟨rfl, hI3, hb3⟩
        go_wp2_with fail
        refine (writeByte_any w.heap.size w.heap.size _ _ _ hI3 (by simp only [List.length_append, List.length_singleton]; omega) ((hb.trans hb2).trans hb3).size).mono ?_
        rintro e w4 ⟨rfl, hI4, hb4⟩
        rw [cells_esc s k hlt hu.out _ _ (hex_at _ _) (hex_at _ _)] at hI4
        have hb5 := ((hb.trans hb2).trans hb3).trans hb4
        go_wp2
        go_roundw
        case rel => exact ⟨k + 1, by omega, by go_num, hI4, hb5⟩
        case measure => simp [intOf]; omega
    · obtain rfl : k = s.size := by omega
      have k1 : ¬ ((s.size : Int) < (s.size : Int)) := by omega
      rw [List.take_of_length_le (by rw [Array.length_toList]; exact Nat.le_refl _)] at hI
      go_wp2_with fail
      refine (Try.Builder_String_any w.heap.size w.heap.size _ _ hI hb.size).mono ?_
      rintro e w2 ⟨rfl, hb2⟩
      have hb3 := hb.trans hb2
      go_wp2
      go_ret
      exact ⟨rfl, hb3⟩
end Go.Proofs.Qxb6600925a
