import Derived.Test.Qxb6602967aTerm
namespace Go.Proofs.Qxb6602967a
open Go.RowKit Go.Kx
set_option linter.unusedVariables false

def vers : ByteArray := ⟨#[118, 61, 115, 112, 102, 49]⟩
def allB : ByteArray := ⟨#[97, 108, 108]⟩
/-- the first k terms, each behind a blank -/
def body (m : Nat → Bool) (q : Nat → Int) (t : Nat → ByteArray) : Nat → List UInt8
  | 0 => []
  | k + 1 => body m q t k ++ (32 :: tb (m k) (q k) (t k))
def recb (m : Nat → Bool) (q : Nat → Int) (t : Nat → ByteArray) (n : Nat) (all : Int) (ha : Bool) : List UInt8 :=
  vers.data.toList ++ body m q t n ++ (if ha = true then 32 :: tb true all allB else [])
def RPost (l : List UInt8) (w : World) (e : Ending) (w' : World) : Prop := ∃ u : ByteArray, e = .returned (.string u) ∧ u.data.toList = l ∧ Below w.heap.size w w'

/-- field k of term i -/
def tcell (m : Nat → Bool) (q : Nat → Int) (nm ar t : Nat → ByteArray) (i k : Nat) : Value :=
  if k = 0 then .bool (m i) else if k = 1 then .int .i64 (q i) else if k = 2 then .string (nm i) else if k = 3 then .string (ar i) else .string (t i)
def row5 (f : Nat → Nat → Value) : Nat → Value := fun j => f (j / 5) (j % 5)
theorem row5_at (f : Nat → Nat → Value) (i k : Nat) (hk : k < 5) : row5 f (i * 5 + k) = f i k := by
  unfold row5
  rw [show (i * 5 + k) / 5 = i by omega, show (i * 5 + k) % 5 = k by omega]

theorem tb_len (m : Bool) (q : Int) (t : ByteArray) : (tb m q t).length ≤ t.size + 1 := by
  have : t.data.toList.length = t.size := by rw [Array.length_toList]; rfl
  unfold tb
  by_cases h : m = true ∧ q ≠ 0
  · rw [if_pos h, List.length_cons]; omega
  · rw [if_neg h]; omega

theorem body_len (m : Nat → Bool) (q : Nat → Int) (t : Nat → ByteArray) : ∀ k, (∀ i, i < k → (t i).size ≤ 1048576) → (body m q t k).length ≤ k * 1048578
  | 0, _ => by simp [body]
  | k + 1, h => by
    have ih := body_len m q t k (fun i hi => h i (by omega))
    have h1 := tb_len (m k) (q k) (t k)
    have h2 := h k (by omega)
    show (body m q t k ++ (32 :: tb (m k) (q k) (t k))).length ≤ _
    rw [List.length_append, List.length_cons]
    omega

set_option maxRecDepth 100000 in
set_option maxHeartbeats 1000000 in
theorem rec_any (g n : Nat) (m : Nat → Bool) (q : Nat → Int) (nm ar t : Nat → ByteArray) (all : Int) (ha : Bool) (w : World)
    (hr : Blk w g (rowOf (row5 (tcell m q nm ar t)) (n * 5)) 42) (hq : ∀ i, i < n → m i = true → 0 ≤ q i ∧ q i ≤ 3) (hall : ha = true → 0 ≤ all ∧ all ≤ 3) (ht : ∀ i, i < n → (t i).size ≤ 1048576) (hn : n ≤ 2097152) :
    Calls Try.prog 33 #[.agg #[.slice (some ⟨g, 0, none⟩) n n, .int .i64 all, .bool ha]] w fun e w' => RPost (recb m q t n all ha) w e w' := by
  have HR : Hid (Blk w g (rowOf (row5 (tcell m q nm ar t)) (n * 5)) 42) := hr
  have HQ : Hid (∀ i, i < n → m i = true → 0 ≤ q i ∧ q i ≤ 3) := hq
  have HT : Hid (∀ i, i < n → (t i).size ≤ 1048576) := ht
  clear hr hq ht
  go_enter Try.func33, Try.ntmps33
  obtain ⟨W1, hW1⟩ : ∃ W1, W1 = w.alloc (.cells #[.slice (some ⟨g, 0, none⟩) n n, .int .i64 all, .bool ha] 47) := ⟨_, rfl⟩
  have z1 : W1.heap.size = w.heap.size + 1 := by rw [hW1, World.size_alloc]
  have gr1 : Blk W1 g (rowOf (row5 (tcell m q nm ar t)) (n * 5)) 42 := by rw [hW1]; exact HR.out.alloc _
  have bx1 : Blk W1 w.heap.size #[.slice (some ⟨g, 0, none⟩) n n, .int .i64 all, .bool ha] 47 := by rw [hW1]; exact Blk.new _ _ _
  have bw1 : Below w.heap.size w W1 := by rw [hW1]; exact below_alloc (Below.refl _ _) _
  have lg := HR.out.lt
  have fr : Lib.IsBuilder 50 5 (w.heap.size + 1) (w.heap.size + 1) [] (W1.alloc (.cells #[.pointer none, .slice none 0 0] 50)) := by
    have := Lib.fresh_isBuilder 50 5 W1
    rw [z1] at this
    exact this
  have GR : Hid (Blk W1 g (rowOf (row5 (tcell m q nm ar t)) (n * 5)) 42) := gr1
  have BX : Hid (Blk W1 w.heap.size #[.slice (some ⟨g, 0, none⟩) n n, .int .i64 all, .bool ha] 47) := bx1
  have BW : Hid (Below w.heap.size w W1) := bw1
  have FR : Hid (Lib.IsBuilder 50 5 (w.heap.size + 1) (w.heap.size + 1) [] (W1.alloc (.cells #[.pointer none, .slice none 0 0] 50))) := fr
  have HW : Hid (W1 = w.alloc (.cells #[.slice (some ⟨g, 0, none⟩) n n, .int .i64 all, .bool ha] 47)) := hW1
  clear gr1 bx1 bw1 fr hW1
  go_wp2_with fail
  rw [← HW.out]
  refine (writeString_any (w.heap.size + 1) (w.heap.size + 1) _ vers _ FR.out (by decide) (by simp; omega)).mono ?_
  rintro e w2 ⟨rfl, hI2, hb2, hk2⟩
  have I2 : Hid (Lib.IsBuilder 50 5 (w.heap.size + 1) (w.heap.size + 1) (Lib.byteCells (vers.data.toList ++ body m q t 0)) w2) := hI2
  have B2 : Hid (Below (w.heap.size + 1) W1 w2) := ((Below.refl _ W1).alloc (by omega) _).trans hb2
  have bx2 := (BX.out.below B2.out (by omega)).cell 0
  clear hI2 hb2 hk2
  go_wp2
  go_loopw [10] (fun s wr => ∃ k : Nat, k ≤ n ∧ s = .int .i64 k ∧ Lib.IsBuilder 50 5 (w.heap.size + 1) (w.heap.size + 1) (Lib.byteCells (vers.data.toList ++ body m q t k)) wr ∧ Below (w.heap.size + 1) W1 wr) (fun s _ => n - (intOf s).toNat)
  case atStart => exact ⟨0, Nat.zero_le _, rfl, I2.out, B2.out⟩
  case round =>
    obtain ⟨k, hk, rfl, hI, hb⟩ := hrel
    obtain ⟨w3, hw3⟩ : ∃ w3, w3 = wr := ⟨_, rfl⟩
    subst hw3
    have hl : (Lib.byteCells (vers.data.toList ++ body m q t k)).length ≤ 6 + k * 1048578 := by
      rw [Lib.byteCells_length, List.length_append]
      have := body_len m q t k (fun i hi => HT.out i (by omega))
      have e : vers.data.toList.length = 6 := rfl
      omega
    have z3 : w.heap.size + 1 < w3.heap.size := by
      rcases hI with h | h
      · exact h.lt
      · exact h.lt
    have I3 : Hid (Lib.IsBuilder 50 5 (w.heap.size + 1) (w.heap.size + 1) (Lib.byteCells (vers.data.toList ++ body m q t k)) w3) := hI
    have B3 : Hid (Below (w.heap.size + 1) W1 w3) := hb
    clear hI hb I2 B2 bx2
    by_cases hlt : k < n
    · have k1 : (k : Int) < (n : Int) := by omega
      have Bg := GR.out.below B3.out (by omega)
      have t0 : w3.cell? ⟨g, k * 5, none⟩ = some (.bool (m k)) := by rw [Bg.cell, rowOf_get _ (by omega)]; rw [show k * 5 = k * 5 + 0 by omega, row5_at _ _ _ (by omega)]; rfl
      have t1 : w3.cell? ⟨g, k * 5 + 1, none⟩ = some (.int .i64 (q k)) := by rw [Bg.cell, rowOf_get _ (by omega), row5_at _ _ _ (by omega)]; rfl
      have t2 : w3.cell? ⟨g, k * 5 + 2, none⟩ = some (.string (nm k)) := by rw [Bg.cell, rowOf_get _ (by omega), row5_at _ _ _ (by omega)]; rfl
      have t3 : w3.cell? ⟨g, k * 5 + 3, none⟩ = some (.string (ar k)) := by rw [Bg.cell, rowOf_get _ (by omega), row5_at _ _ _ (by omega)]; rfl
      have t4 : w3.cell? ⟨g, k * 5 + 4, none⟩ = some (.string (t k)) := by rw [Bg.cell, rowOf_get _ (by omega), row5_at _ _ _ (by omega)]; rfl
      clear Bg
      go_wp2_with fail
      refine (writeByte_any (w.heap.size + 1) (w.heap.size + 1) _ 32 _ (built_alloc I3.out _) (by omega) (by simp; omega)).mono ?_
      rintro e w4 ⟨rfl, hI4, hb4, hk4⟩
      have V4 := hk4 _ _ _ (by decide) (by omega) (Blk.new w3 #[.bool (m k), .int .i64 (q k), .string (nm k), .string (ar k), .string (t k)] 42)
      have v0 : w4.cell? ⟨w3.heap.size, 0, none⟩ = some (.bool (m k)) := V4.cell 0
      have v1 : w4.cell? ⟨w3.heap.size, 1, none⟩ = some (.int .i64 (q k)) := V4.cell 1
      have v2 : w4.cell? ⟨w3.heap.size, 2, none⟩ = some (.string (nm k)) := V4.cell 2
      have v3 : w4.cell? ⟨w3.heap.size, 3, none⟩ = some (.string (ar k)) := V4.cell 3
      have v4 : w4.cell? ⟨w3.heap.size, 4, none⟩ = some (.string (t k)) := V4.cell 4
      have I4 : Hid (Lib.IsBuilder 50 5 (w.heap.size + 1) (w.heap.size + 1) (Lib.byteCells (vers.data.toList ++ body m q t k) ++ [.int .u8 32]) w4) := hI4
      have B4 : Hid (Below (w.heap.size + 1) W1 w4) := (B3.out.alloc (by omega) _).trans hb4
      have z4 : w.heap.size + 1 ≤ w4.heap.size := by have := B4.out.size; omega
      clear hI4 hb4 hk4 V4 t0 t1 t2 t3 t4
      go_wp2_with fail
      refine (term_any (m k) (q k) (nm k) (ar k) (t k) (HQ.out k hlt) (HT.out k hlt) _).mono ?_
      rintro e w5 ⟨u, rfl, hu, hb5⟩
      have hus : u.size ≤ 1048577 := by
        have h1 := tb_len (m k) (q k) (t k)
        have h2 := HT.out k hlt
        have h3 : u.data.toList.length = u.size := by rw [Array.length_toList]; rfl
        rw [hu] at h3
        omega
      have I5 : Hid (Lib.IsBuilder 50 5 (w.heap.size + 1) (w.heap.size + 1) (Lib.byteCells (vers.data.toList ++ body m q t k) ++ [.int .u8 32]) w5) := built_later I4.out hb5
      have B5 : Hid (Below (w.heap.size + 1) W1 w5) := B4.out.trans (hb5.mono z4)
      have z5 : w.heap.size + 1 ≤ w5.heap.size := by have := B5.out.size; omega
      have HU : Hid (u.data.toList = tb (m k) (q k) (t k)) := hu
      clear hu hb5 v0 v1 v2 v3 v4 I4 B4
      go_wp2_with fail
      refine (writeString_any (w.heap.size + 1) (w.heap.size + 1) _ u _ I5.out (by rw [List.length_append, List.length_singleton]; omega) z5).mono ?_
      rintro e w6 ⟨rfl, hI6, hb6, hk6⟩
      have I6 : Hid (Lib.IsBuilder 50 5 (w.heap.size + 1) (w.heap.size + 1) (Lib.byteCells (vers.data.toList ++ body m q t (k + 1))) w6) := by
        have e : Lib.byteCells (vers.data.toList ++ body m q t k) ++ [.int .u8 32] ++ Lib.strCells u = Lib.byteCells (vers.data.toList ++ body m q t (k + 1)) := by
          show _ = Lib.byteCells (vers.data.toList ++ (body m q t k ++ (32 :: tb (m k) (q k) (t k))))
          rw [← HU.out, ← List.append_assoc, Lib.byteCells_append (vers.data.toList ++ body m q t k), List.append_assoc]
          rfl
        rw [e] at hI6
        exact hI6
      have B6 : Hid (Below (w.heap.size + 1) W1 w6) := B5.out.trans hb6
      clear hI6 hb6 hk6
      go_wp2
      go_roundw
      case rel => exact ⟨k + 1, by omega, by go_num, I6.out, B6.out⟩
      case measure => simp [intOf]; omega
    · obtain rfl : n = k := by omega
      have k1 : ¬ ((n : Int) < (n : Int)) := by omega
      have Bx := BX.out.below B3.out (by omega)
      have x1 : w3.cell? ⟨w.heap.size, 1, none⟩ = some (.int .i64 all) := Bx.cell 1
      have x2 : w3.cell? ⟨w.heap.size, 2, none⟩ = some (.bool ha) := Bx.cell 2
      cases ha with
      | false =>
        go_wp2_with fail
        refine (Try.Builder_String_any (w.heap.size + 1) (w.heap.size + 1) _ _ I3.out (by omega)).mono ?_
        rintro e w4 ⟨rfl, hb4⟩
        have FB : Hid (Below w.heap.size w w4) := BW.out.trans ((B3.out.trans hb4).mono (by omega))
        clear hb4
        go_wp2
        go_ret
        exact ⟨_, rfl, by simp [recb], FB.out⟩
      | true =>
        have h3 := hall rfl
        go_wp2_with fail
        refine (writeByte_any (w.heap.size + 1) (w.heap.size + 1) _ 32 _ I3.out (by omega) (by omega)).mono ?_
        rintro e w4 ⟨rfl, hI4, hb4, hk4⟩
        have I4 : Hid (Lib.IsBuilder 50 5 (w.heap.size + 1) (w.heap.size + 1) (Lib.byteCells (vers.data.toList ++ body m q t n) ++ [.int .u8 32]) w4) := hI4
        have B4 : Hid (Below (w.heap.size + 1) W1 w4) := B3.out.trans hb4
        have z4 : w.heap.size + 1 ≤ w4.heap.size := by have := B4.out.size; omega
        have Bx4 := BX.out.below B4.out (by omega)
        have y1 : w4.cell? ⟨w.heap.size, 1, none⟩ = some (.int .i64 all) := Bx4.cell 1
        clear hI4 hb4 hk4 Bx4 x1 x2 Bx
        go_wp2_with fail
        refine (term_any true all allB ⟨#[]⟩ allB (fun _ => h3) (by decide) _).mono ?_
        rintro e w5 ⟨u, rfl, hu, hb5⟩
        have hus : u.size ≤ 1048577 := by
          have h1 := tb_len true all allB
          have h2 : allB.size = 3 := rfl
          have h3 : u.data.toList.length = u.size := by rw [Array.length_toList]; rfl
          rw [hu] at h3
          omega
        have I5 : Hid (Lib.IsBuilder 50 5 (w.heap.size + 1) (w.heap.size + 1) (Lib.byteCells (vers.data.toList ++ body m q t n) ++ [.int .u8 32]) w5) := built_later I4.out hb5
        have B5 : Hid (Below (w.heap.size + 1) W1 w5) := B4.out.trans (hb5.mono z4)
        have z5 : w.heap.size + 1 ≤ w5.heap.size := by have := B5.out.size; omega
        have HU : Hid (u.data.toList = tb true all allB) := hu
        clear hu hb5 y1 I4 B4
        go_wp2_with fail
        refine (writeString_any (w.heap.size + 1) (w.heap.size + 1) _ u _ I5.out (by rw [List.length_append, List.length_singleton]; omega) z5).mono ?_
        rintro e w6 ⟨rfl, hI6, hb6, hk6⟩
        have I6 : Hid (Lib.IsBuilder 50 5 (w.heap.size + 1) (w.heap.size + 1) (Lib.byteCells (recb m q t n all true)) w6) := by
          have e : Lib.byteCells (vers.data.toList ++ body m q t n) ++ [.int .u8 32] ++ Lib.strCells u = Lib.byteCells (recb m q t n all true) := by
            show _ = Lib.byteCells ((vers.data.toList ++ body m q t n) ++ (32 :: tb true all allB))
            rw [← HU.out, Lib.byteCells_append (vers.data.toList ++ body m q t n), List.append_assoc]
            rfl
          rw [e] at hI6
          exact hI6
        have B6 : Hid (Below (w.heap.size + 1) W1 w6) := B5.out.trans hb6
        have z6 : w.heap.size + 1 ≤ w6.heap.size := by have := B6.out.size; omega
        clear hI6 hb6 hk6
        go_wp2_with fail
        refine (Try.Builder_String_any (w.heap.size + 1) (w.heap.size + 1) _ _ I6.out z6).mono ?_
        rintro e w7 ⟨rfl, hb7⟩
        have FB : Hid (Below w.heap.size w w7) := BW.out.trans ((B6.out.trans hb7).mono (by omega))
        clear hb7
        go_wp2
        go_ret
        exact ⟨_, rfl, by simp, FB.out⟩
end Go.Proofs.Qxb6602967a
