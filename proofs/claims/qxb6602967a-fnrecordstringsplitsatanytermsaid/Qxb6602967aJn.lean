import Derived.Test.Qxb6602967aBy
namespace Go.Proofs.Qxb6602967a
open Go.RowKit Go.Kx
set_option linter.unusedVariables false

/-- two columns, one behind the other -/
def jn {α : Type} (f g : Nat → α) (n : Nat) : Nat → α := fun j => if j < n then f j else g (j - n)
theorem jn_left {α : Type} (f g : Nat → α) {n j : Nat} (h : j < n) : jn f g n j = f j := by unfold jn; rw [if_pos h]
theorem jn_right {α : Type} (f g : Nat → α) (n j : Nat) : jn f g n (n + j) = g j := by unfold jn; rw [if_neg (by omega), Nat.add_sub_cancel_left]

theorem body_congr {m m' : Nat → Bool} {q q' : Nat → Int} {t t' : Nat → ByteArray} : ∀ {k : Nat}, (∀ i, i < k → m i = m' i ∧ q i = q' i ∧ t i = t' i) → body m q t k = body m' q' t' k
  | 0, _ => rfl
  | k + 1, h => by
    obtain ⟨h1, h2, h3⟩ := h k (by omega)
    show body m q t k ++ _ = body m' q' t' k ++ _
    rw [body_congr (fun i hi => h i (by omega)), h1, h2, h3]

theorem body_join (m m' : Nat → Bool) (q q' : Nat → Int) (t t' : Nat → ByteArray) (n : Nat) : ∀ k, body (jn m m' n) (jn q q' n) (jn t t' n) (n + k) = body m q t n ++ body m' q' t' k
  | 0 => by
    rw [Nat.add_zero]
    show _ = body m q t n ++ []
    rw [List.append_nil]
    exact body_congr (fun i hi => ⟨jn_left _ _ hi, jn_left _ _ hi, jn_left _ _ hi⟩)
  | k + 1 => by
    show body (jn m m' n) (jn q q' n) (jn t t' n) (n + k) ++ (32 :: tb (jn m m' n (n + k)) (jn q q' n (n + k)) (jn t t' n (n + k))) = body m q t n ++ (body m' q' t' k ++ (32 :: tb (m' k) (q' k) (t' k)))
    rw [body_join m m' q q' t t' n k, jn_right, jn_right, jn_right, List.append_assoc]

theorem rec_join (m m' : Nat → Bool) (q q' : Nat → Int) (t t' : Nat → ByteArray) (n k : Nat) (all : Int) (ha : Bool) :
    recb (jn m m' n) (jn q q' n) (jn t t' n) (n + k) all ha = recb m q t n 0 false ++ (recb m' q' t' k all ha).drop 6 := by
  unfold recb
  rw [body_join]
  have : vers.data.toList.length = 6 := rfl
  rw [List.append_assoc, List.append_assoc, List.append_assoc vers.data.toList (body m' q' t' k), List.drop_append_of_le_length (by omega), List.drop_of_length_le (by omega)]
  simp

theorem recb_len (m : Nat → Bool) (q : Nat → Int) (t : Nat → ByteArray) (n : Nat) (all : Int) (ha : Bool) : 6 ≤ (recb m q t n all ha).length := by
  unfold recb
  have : vers.data.toList.length = 6 := rfl
  rw [List.length_append, List.length_append]
  omega

theorem recb_le (m : Nat → Bool) (q : Nat → Int) (t : Nat → ByteArray) (n : Nat) (all : Int) (ha : Bool) (ht : ∀ i, i < n → (t i).size ≤ 1048576) : (recb m q t n all ha).length ≤ n * 1048578 + 20 := by
  unfold recb
  have h1 : vers.data.toList.length = 6 := rfl
  have h2 := body_len m q t n ht
  have h3 := tb_len true all allB
  have h4 : allB.size = 3 := rfl
  rw [List.length_append, List.length_append]
  by_cases h : ha = true
  · rw [if_pos h, List.length_cons]; omega
  · rw [if_neg h]
    show _ + 0 ≤ _
    omega
theorem size_of {u : ByteArray} {l : List UInt8} (h : u.data.toList = l) : u.size = l.length := by
  rw [← h, Array.length_toList]; rfl

/-- five rows, filled up to k -/
structure J5 (wG wr : World) (N k : Nat) (m : Nat → Bool) (q : Nat → Int) (nm ar t : Nat → ByteArray) : Prop where
  b0 : Blk wr wG.heap.size (rowOf (fun j => if j < k then bools m j else .bool false) N) 4
  b1 : Blk wr (wG.heap.size + 1) (rowOf (fun j => if j < k then ints .i64 q j else .int .i64 0) N) 3
  b2 : Blk wr (wG.heap.size + 2) (rowOf (fun j => if j < k then strs nm j else .string ⟨#[]⟩) N) 9
  b3 : Blk wr (wG.heap.size + 3) (rowOf (fun j => if j < k then strs ar j else .string ⟨#[]⟩) N) 9
  b4 : Blk wr (wG.heap.size + 4) (rowOf (fun j => if j < k then strs t j else .string ⟨#[]⟩) N) 9
  bel : Below wG.heap.size wG wr

theorem row_next {w : World} {g N k : Nat} {f : Nat → Value} {z : Value} {T : TypeId} (h : Blk w g (rowOf (fun j => if j < k then f j else z) N) T) : Blk (w.setCell ⟨g, k, none⟩ (f k)) g (rowOf (fun j => if j < k + 1 then f j else z) N) T :=
  (h.set k (f k)).congr (by rw [rowOf_set]; exact mid_step f z N k)

theorem J5.step {wG wr : World} {N k : Nat} {m : Nat → Bool} {q : Nat → Int} {nm ar t : Nat → ByteArray} (h : J5 wG wr N k m q nm ar t) :
    J5 wG (((((wr.setCell ⟨wG.heap.size, k, none⟩ (.bool (m k))).setCell ⟨wG.heap.size + 1, k, none⟩ (.int .i64 (q k))).setCell ⟨wG.heap.size + 2, k, none⟩ (.string (nm k))).setCell ⟨wG.heap.size + 3, k, none⟩ (.string (ar k))).setCell ⟨wG.heap.size + 4, k, none⟩ (.string (t k))) N (k + 1) m q nm ar t := by
  have x0 := row_next (f := bools m) h.b0
  have x1 := row_next (f := ints .i64 q) (h.b1.other ⟨wG.heap.size, k, none⟩ (.bool (m k)) (by simp))
  have x2 := row_next (f := strs nm) ((h.b2.other ⟨wG.heap.size, k, none⟩ (.bool (m k)) (by simp)).other ⟨wG.heap.size + 1, k, none⟩ (.int .i64 (q k)) (by simp))
  have x3 := row_next (f := strs ar) (((h.b3.other ⟨wG.heap.size, k, none⟩ (.bool (m k)) (by simp)).other ⟨wG.heap.size + 1, k, none⟩ (.int .i64 (q k)) (by simp)).other ⟨wG.heap.size + 2, k, none⟩ (.string (nm k)) (by simp))
  have x4 := row_next (f := strs t) ((((h.b4.other ⟨wG.heap.size, k, none⟩ (.bool (m k)) (by simp)).other ⟨wG.heap.size + 1, k, none⟩ (.int .i64 (q k)) (by simp)).other ⟨wG.heap.size + 2, k, none⟩ (.string (nm k)) (by simp)).other ⟨wG.heap.size + 3, k, none⟩ (.string (ar k)) (by simp))
  refine ⟨?_, ?_, ?_, ?_, x4, ?_⟩
  · exact ((((x0.other _ _ (by simp)).other _ _ (by simp)).other _ _ (by simp)).other _ _ (by simp))
  · exact (((x1.other _ _ (by simp)).other _ _ (by simp)).other _ _ (by simp))
  · exact ((x2.other _ _ (by simp)).other _ _ (by simp))
  · exact (x3.other _ _ (by simp))
  · exact ((((h.bel.setCell (by simp) _).setCell (by simp) _).setCell (by simp) _).setCell (by simp) _).setCell (by simp) _
theorem mkB (M N : Nat) (h : M + N ≤ 4194304) (w : World) : (Instr.makeSlice 29 (.int .i64 ((M : Int) + (N : Int))) (.int .i64 ((M : Int) + (N : Int)))).run Try.prog w = .ok (.slice (some ⟨w.heap.size, 0, none⟩) (M + N) (M + N)) (w.alloc (.cells (rowOf (fun _ => .bool false) (M + N)) 4)) := by
  obtain ⟨i, hi, hz0, hz1, hz2⟩ := info_parts info4
  have := run_make (P := Try.prog) w 29 4 i (.bool false) Try.underlying29 hi hz0 .i64 .i64 ((M : Int) + (N : Int)) ((M : Int) + (N : Int)) (by omega) (by omega) (by rw [hz2]; omega) (by omega)
  rw [this, show ((M : Int) + (N : Int)).toNat = M + N by omega, rowOf_const, hz1]
  simp
  rfl
theorem mkI (M N : Nat) (h : M + N ≤ 4194304) (w : World) : (Instr.makeSlice 30 (.int .i64 ((M : Int) + (N : Int))) (.int .i64 ((M : Int) + (N : Int)))).run Try.prog w = .ok (.slice (some ⟨w.heap.size, 0, none⟩) (M + N) (M + N)) (w.alloc (.cells (rowOf (fun _ => .int .i64 0) (M + N)) 3)) := by
  obtain ⟨i, hi, hz0, hz1, hz2⟩ := info_parts info3
  have := run_make (P := Try.prog) w 30 3 i (.int .i64 0) Try.underlying30 hi hz0 .i64 .i64 ((M : Int) + (N : Int)) ((M : Int) + (N : Int)) (by omega) (by omega) (by rw [hz2]; omega) (by omega)
  rw [this, show ((M : Int) + (N : Int)).toNat = M + N by omega, rowOf_const, hz1]
  simp
  rfl
theorem mkS (M N : Nat) (h : M + N ≤ 4194304) (w : World) : (Instr.makeSlice 31 (.int .i64 ((M : Int) + (N : Int))) (.int .i64 ((M : Int) + (N : Int)))).run Try.prog w = .ok (.slice (some ⟨w.heap.size, 0, none⟩) (M + N) (M + N)) (w.alloc (.cells (rowOf (fun _ => .string ⟨#[]⟩) (M + N)) 9)) := by
  obtain ⟨i, hi, hz0, hz1, hz2⟩ := info_parts info9
  have := run_make (P := Try.prog) w 31 9 i (.string ⟨#[]⟩) Try.underlying31 hi hz0 .i64 .i64 ((M : Int) + (N : Int)) ((M : Int) + (N : Int)) (by omega) (by omega) (by rw [hz2]; omega) (by omega)
  rw [this, show ((M : Int) + (N : Int)).toNat = M + N by omega, rowOf_const, hz1]
  simp
  rfl

theorem J5.start (wG : World) (N : Nat) (m : Nat → Bool) (q : Nat → Int) (nm ar t : Nat → ByteArray) :
    J5 wG (((((wG.alloc (.cells (rowOf (fun _ => .bool false) N) 4)).alloc (.cells (rowOf (fun _ => .int .i64 0) N) 3)).alloc (.cells (rowOf (fun _ => .string ⟨#[]⟩) N) 9)).alloc (.cells (rowOf (fun _ => .string ⟨#[]⟩) N) 9)).alloc (.cells (rowOf (fun _ => .string ⟨#[]⟩) N) 9)) N 0 m q nm ar t := by
  have z0 : ∀ (f : Nat → Value) (z : Value), rowOf (fun _ => z) N = rowOf (fun j => if j < 0 then f j else z) N := fun f z => rowOf_congr (fun j _ => by simp)
  refine ⟨?_, ?_, ?_, ?_, ?_, ?_⟩
  · exact (((((Blk.new wG _ 4).alloc _).alloc _).alloc _).alloc _).congr (z0 _ _)
  · have h := (((Blk.new (wG.alloc (.cells (rowOf (fun _ => .bool false) N) 4)) (rowOf (fun _ => .int .i64 0) N) 3).alloc (.cells (rowOf (fun _ => .string ⟨#[]⟩) N) 9)).alloc (.cells (rowOf (fun _ => .string ⟨#[]⟩) N) 9)).alloc (.cells (rowOf (fun _ => .string ⟨#[]⟩) N) 9)
    rw [World.size_alloc] at h
    exact h.congr (z0 _ _)
  · have h := ((Blk.new ((wG.alloc (.cells (rowOf (fun _ => .bool false) N) 4)).alloc (.cells (rowOf (fun _ => .int .i64 0) N) 3)) (rowOf (fun _ => .string ⟨#[]⟩) N) 9).alloc (.cells (rowOf (fun _ => .string ⟨#[]⟩) N) 9)).alloc (.cells (rowOf (fun _ => .string ⟨#[]⟩) N) 9)
    rw [World.size_alloc, World.size_alloc] at h
    exact h.congr (z0 _ _)
  · have h := (Blk.new (((wG.alloc (.cells (rowOf (fun _ => .bool false) N) 4)).alloc (.cells (rowOf (fun _ => .int .i64 0) N) 3)).alloc (.cells (rowOf (fun _ => .string ⟨#[]⟩) N) 9)) (rowOf (fun _ => .string ⟨#[]⟩) N) 9).alloc (.cells (rowOf (fun _ => .string ⟨#[]⟩) N) 9)
    rw [World.size_alloc, World.size_alloc, World.size_alloc] at h
    exact h.congr (z0 _ _)
  · have h := Blk.new ((((wG.alloc (.cells (rowOf (fun _ => .bool false) N) 4)).alloc (.cells (rowOf (fun _ => .int .i64 0) N) 3)).alloc (.cells (rowOf (fun _ => .string ⟨#[]⟩) N) 9)).alloc (.cells (rowOf (fun _ => .string ⟨#[]⟩) N) 9)) (rowOf (fun _ => .string ⟨#[]⟩) N) 9
    rw [World.size_alloc, World.size_alloc, World.size_alloc, World.size_alloc] at h
    exact h.congr (z0 _ _)
  · exact below_alloc (below_alloc (below_alloc (below_alloc (below_alloc (Below.refl _ _) _) _) _) _) _

/-- the rows when they are full -/
theorem full {w : World} {g N c : Nat} {f : Nat → Value} {z : Value} {T : TypeId} (h : Blk w g (rowOf (fun j => if j < N then f j else z) N) T) : Rw w (some ⟨g, 0, none⟩) N c f :=
  Rw.of_blk (h.congr (rowOf_congr fun j hj => by rw [if_pos hj])) (Nat.le_refl _)

theorem bytes_eq (u1 u2 u3 : ByteArray) (h : u1.data.toList = u2.data.toList ++ u3.data.toList.drop 6) : u1 = u2 ++ u3.extract 6 u3.size := by
  have e : u1.data = (u2 ++ u3.extract 6 u3.size).data := by
    apply Array.ext'
    rw [h]
    simp
    rw [List.take_of_length_le (by rw [List.length_drop, Array.length_toList]; exact Nat.le_refl _)]
  cases u1
  exact congrArg ByteArray.mk e
end Go.Proofs.Qxb6602967a
