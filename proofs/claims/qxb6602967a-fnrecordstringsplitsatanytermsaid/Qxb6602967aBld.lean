import Derived.Test.Qxb6602967aShelf
import Derived.Laws.Externs
import Derived.Test.Qxb6602967aKit
namespace Go.Proofs.Qxb6602967a
open Go.RowKit Go.Kx
set_option linter.unusedVariables false

theorem sizeB : (Try.prog.info? 50).map (·.size) = some 2 := by kernel_rfl
theorem liesB : liesAt Try.prog Try.prog.depth 50 (2 / Try.prog.cellsOf 50) 0 50 1 = true := by kernel_rfl
theorem conv_to (b : Nat) (w : World) (hsh : w.shape? b = some (50, 2)) : (convert 48 58 (.pointer (some ⟨b, 0, none⟩))).run Try.prog w = .ok (.pointer (some ⟨b, 0, none⟩)) w := by
  obtain ⟨j, hj, hjs⟩ := Option.map_eq_some_iff.1 sizeB
  simp [convert, run_underlying Try.underlying48, run_underlying Try.underlying58]
  show Sem.run Try.prog (underlying 48 >>= _) w = _
  simp [run_underlying Try.underlying48, run_underlying Try.underlying58, Conv.seenAt, viewAt, cellsIn, hsh, sizeOf, typeInfo, hj, hjs]
theorem conv_from (b : Nat) (w : World) (hsh : w.shape? b = some (50, 2)) : (convert 58 48 (.pointer (some ⟨b, 0, none⟩))).run Try.prog w = .ok (.pointer (some ⟨b, 0, none⟩)) w := by
  obtain ⟨j, hj, hjs⟩ := Option.map_eq_some_iff.1 sizeB
  have hl := liesB
  simp [convert, run_underlying Try.underlying48, run_underlying Try.underlying58]
  show Sem.run Try.prog (underlying 58 >>= _) w = _
  simp [run_underlying Try.underlying48, run_underlying Try.underlying58, Conv.seenAt, viewAt, hsh, variablesAt, hl, sizeOf, typeInfo, hj, hjs]

theorem info5 : (Try.prog.info? 5).map (fun i => (i.zero, i.size, i.bytes)) = some (some (.int .u8 0), 1, 1) := by kernel_rfl

set_option maxHeartbeats 1000000 in
set_option maxRecDepth 100000 in
theorem copyCheck_used (b : Nat) (w : World) (h0 : w.cell? ⟨b, 0, none⟩ = some (.pointer (some ⟨b, 0, none⟩))) :
    Calls Try.prog 41 #[.pointer (some ⟨b, 0, none⟩)] w fun e w' => e = .returned (.tuple #[]) ∧ w' = w := by
  obtain ⟨j, hj, _⟩ := Option.map_eq_some_iff.1 sizeB
  go_enter Try.func41, Try.ntmps41
  go_wp2
  rw [Lib.run_neq_ptr_same w _ Try.underlying48 hj]
  go_wp2
  go_end0
  exact ⟨rfl, rfl⟩

set_option maxHeartbeats 1000000 in
set_option maxRecDepth 100000 in
theorem copyCheck_fresh (b : Nat) (w : World) (h0 : w.cell? ⟨b, 0, none⟩ = some (.pointer none)) (hsh : w.shape? b = some (50, 2)) (hfz : w.frozen? ⟨b, 0, none⟩ = false) :
    Calls Try.prog 41 #[.pointer (some ⟨b, 0, none⟩)] w fun e w' => e = .returned (.tuple #[]) ∧ w' = w.setCell ⟨b, 0, none⟩ (.pointer (some ⟨b, 0, none⟩)) := by
  obtain ⟨j, hj, hjs⟩ := Option.map_eq_some_iff.1 sizeB
  go_enter Try.func41, Try.ntmps41
  go_wp2
  rw [conv_to b w hsh]
  simp only [Result.andThen]
  rw [Oper.upon_value]
  go_wp2
  rw [run_callFunc_extern Try.func44 (by kernel_rfl) (by kernel_rfl) (by kernel_rfl) (e := Extern.AbiNoEscape.same) (by kernel_rfl)]
  rw [Lib.run_noEscape]
  simp only [Result.andThen]
  rw [Oper.upon_value]
  go_wp2
  rw [conv_from b w hsh]
  simp only [Result.andThen]
  rw [Oper.upon_value]
  go_wp2
  go_end0
  exact ⟨rfl, rfl⟩

/-- every block that is neither b nor a row of bytes stands -/
def Kept (b : Nat) (w w' : World) : Prop := ∀ g arr t, t ≠ 5 → g ≠ b → Blk w g arr t → Blk w' g arr t
theorem Kept.refl (b : Nat) (w : World) : Kept b w w := fun _ _ _ _ _ h => h
theorem Kept.trans {b : Nat} {w w' w'' : World} (h : Kept b w w') (k : Kept b w' w'') : Kept b w w'' := fun g arr t h1 h2 h3 => k g arr t h1 h2 (h g arr t h1 h2 h3)
theorem Kept.set (b : Nat) (w : World) (o : Nat) (v : Value) : Kept b w (w.setCell ⟨b, o, none⟩ v) := fun g arr t h1 h2 h3 => h3.other _ _ h2
theorem Kept.alloc (b : Nat) (w : World) (o : Obj) : Kept b w (w.alloc o) := fun g arr t h1 h2 h3 => h3.alloc o
theorem Kept.grown {b B n : Nat} {w w' : World} {v : Value} {xs : List Value} (h : w.ownsRow B 5 1 v n xs) (hg : w.grownBy w' v.ownBlock) : Kept b w w' := fun g arr t h1 h2 h3 => by
  refine (hg.block g h3.lt (fun e => ?_)).trans h3
  rcases h.2 with ⟨rfl, _⟩ | ⟨k, cap, cur, rfl, _, hh, _⟩
  · simp [Value.ownBlock] at e
  · have e' : g = k := by simpa [Value.ownBlock] using e
    subst e'
    have := h3.symm.trans hh
    simp at this
    exact h1 this.2

theorem copyCheck_any (B b : Nat) (bs : List Value) (w : World) (h : Lib.IsBuilder 50 5 B b bs w) :
    Calls Try.prog 41 #[.pointer (some ⟨b, 0, none⟩)] w fun e w' => e = .returned (.tuple #[]) ∧ (Lib.BuilderAt 50 5 B b (.pointer (some ⟨b, 0, none⟩)) bs w' ∧ Below B w w' ∧ Kept b w w') := by
  rcases h with h | h
  · refine (copyCheck_fresh b w h.cell0 h.shape h.frozen0).mono ?_
    rintro e w' ⟨rfl, rfl⟩
    exact ⟨rfl, h.used _, (Below.refl B w).setCell (p := ⟨b, 0, none⟩) h.1 _, Kept.set b w 0 _⟩
  · refine (copyCheck_used b w h.cell0).mono ?_
    rintro e w' ⟨rfl, rfl⟩
    exact ⟨rfl, h, Below.refl B _, Kept.refl _ _⟩

set_option maxHeartbeats 2000000 in
set_option maxRecDepth 100000 in
theorem writeByte_any (B b : Nat) (bs : List Value) (c : Int) (w : World) (h : Lib.IsBuilder 50 5 B b bs w) (hlen : bs.length + 1 ≤ 140737488355328) (hBw : B ≤ w.heap.size) :
    Calls Try.prog 38 #[.pointer (some ⟨b, 0, none⟩), .int .u8 c] w fun e w' => e = .returned .nilIface ∧ Lib.IsBuilder 50 5 B b (bs ++ [.int .u8 c]) w' ∧ Below B w w' ∧ Kept b w w' := by
  obtain ⟨i0, hi, hz0, hz1, hz2⟩ := info_parts info5
  go_enter Try.func38, Try.ntmps38
  go_wp2_with fail
  refine (copyCheck_any B b bs _ h).mono ?_
  rintro e w1 ⟨rfl, h1, hb1, hk1⟩
  obtain ⟨hB, v, hbk, hown, hne⟩ := h1
  have c0 : w1.cell? ⟨b, 0, none⟩ = some (.pointer (some ⟨b, 0, none⟩)) := by rw [Lib.cell_of_heap hbk]; rfl
  have c1 : w1.cell? ⟨b, 1, none⟩ = some v := by rw [Lib.cell_of_heap hbk]; rfl
  go_wp2_with (at_builtin; refine wpList_append_own _ rfl _ _ 23 rfl B 5 i0 (.int .u8 0) 1 1 Try.underlying23 hi hz0 hz1 hz2 rfl (by decide) _ _ _ rfl (hown.alloc _) ⟨w1.heap.size, 0, none⟩ 1 1 [.int .u8 c] rfl rfl ?c1 ?c2 ?c3 ?c4 ?c5 ?_)
  case c1 =>
    intro j u hj
    match j, hj with
    | 0, hj => simp at hj; subst hj; simp [Addr.add]
  case c2 => intro u hu; simp at hu; subst hu; rfl
  case c3 => unfold maxLen; omega
  case c4 => omega
  case c5 => have := hb1.size; simp; omega
  intro v' w2 hown' hgrow _
  have hlt : b < w1.heap.size := Lib.BuilderAt.lt ⟨hB, v, hbk, hown, hne⟩
  have hb2 : w2.heap[b]? = some (.cells #[.pointer (some ⟨b, 0, none⟩), v] 50 (0, 0)) := by
    rw [hgrow.block b (by simp; omega) (fun e => hne e.symm), Lib.alloc_old w1 _ b hlt]
    exact hbk
  have d0 : w2.cell? ⟨b, 0, none⟩ = some (.pointer (some ⟨b, 0, none⟩)) := by rw [Lib.cell_of_heap hb2]; rfl
  have d1 : w2.cell? ⟨b, 1, none⟩ = some v := by rw [Lib.cell_of_heap hb2]; rfl
  have f1 : w2.frozen? ⟨b, 1, none⟩ = false := Lib.frozen_of_heap hb2 1
  obtain ⟨g, cap, rfl⟩ : ∃ g cap, v' = .slice (some ⟨g, 0, none⟩) (bs.length + 1) cap := by
    rcases hown'.2 with ⟨_, h0⟩ | ⟨g, cap, cur, hv, _⟩
    · omega
    · exact ⟨g, cap, hv⟩
  go_wp2
  go_ret
  refine ⟨rfl, .inr ?_, ?_, ((hk1.trans (Kept.alloc b w1 _)).trans (Kept.grown (hown.alloc _) hgrow)).trans (Kept.set b w2 1 _)⟩
  · exact Lib.BuilderAt.put (T := 50) (e := 5) hB hb2 (bs' := bs ++ [.int .u8 c]) (by simpa using hown') (by decide)
  · exact ((hb1.alloc (by have := hb1.size; omega) _).grown hgrow (by have := hb1.size; simp; omega) (fun k hk => (hown.lt k hk).1)).setCell (p := ⟨b, 1, none⟩) hB _

set_option maxHeartbeats 2000000 in
set_option maxRecDepth 100000 in
theorem writeString_any (B b : Nat) (bs : List Value) (s : ByteArray) (w : World) (h : Lib.IsBuilder 50 5 B b bs w) (hlen : bs.length + s.size ≤ 140737488355328) (hBw : B ≤ w.heap.size) :
    Calls Try.prog 37 #[.pointer (some ⟨b, 0, none⟩), .string s] w fun e w' => e = .returned (.tuple #[.int .i64 s.size, .nilIface]) ∧ Lib.IsBuilder 50 5 B b (bs ++ Lib.strCells s) w' ∧ Below B w w' ∧ Kept b w w' := by
  obtain ⟨i0, hi, hz0, hz1, hz2⟩ := info_parts info5
  go_enter Try.func37, Try.ntmps37
  go_wp2_with fail
  refine (copyCheck_any B b bs _ h).mono ?_
  rintro e w1 ⟨rfl, h1, hb1, hk1⟩
  obtain ⟨hB, v, hbk, hown, hne⟩ := h1
  have c0 : w1.cell? ⟨b, 0, none⟩ = some (.pointer (some ⟨b, 0, none⟩)) := by rw [Lib.cell_of_heap hbk]; rfl
  have c1 : w1.cell? ⟨b, 1, none⟩ = some v := by rw [Lib.cell_of_heap hbk]; rfl
  go_wp2_with (at_builtin; refine Lib.wpList_append_own_string _ rfl _ _ 23 9 rfl B 5 i0 Try.underlying23 Try.underlying9 hi hz0 hz1 hz2 _ _ _ rfl hown s rfl ?c3 ?c4 ?c5 ?_)
  case c3 => unfold maxLen; omega
  case c4 => omega
  case c5 => have := hb1.size; omega
  intro v' w2 hown' hgrow _
  have hlt : b < w1.heap.size := Lib.BuilderAt.lt ⟨hB, v, hbk, hown, hne⟩
  have hb2 : w2.heap[b]? = some (.cells #[.pointer (some ⟨b, 0, none⟩), v] 50 (0, 0)) := by
    rw [hgrow.block b hlt (fun e => hne e.symm)]
    exact hbk
  have d0 : w2.cell? ⟨b, 0, none⟩ = some (.pointer (some ⟨b, 0, none⟩)) := by rw [Lib.cell_of_heap hb2]; rfl
  have d1 : w2.cell? ⟨b, 1, none⟩ = some v := by rw [Lib.cell_of_heap hb2]; rfl
  have f1 : w2.frozen? ⟨b, 1, none⟩ = false := Lib.frozen_of_heap hb2 1
  obtain ⟨ao, n', cap, rfl⟩ : ∃ ao n' cap, v' = .slice ao n' cap := by
    rcases hown'.2 with ⟨hv, _⟩ | ⟨g, cap, cur, hv, _⟩
    · exact ⟨_, _, _, hv⟩
    · exact ⟨_, _, _, hv⟩
  go_wp2
  go_ret2
  refine ⟨rfl, .inr ?_, ?_, (hk1.trans (Kept.grown hown hgrow)).trans (Kept.set b w2 1 _)⟩
  · exact Lib.BuilderAt.put (T := 50) (e := 5) hB hb2 (bs' := bs ++ Lib.strCells s) (by simpa [Lib.strCells_length] using hown') (by decide)
  · exact (hb1.grown hgrow (by have := hb1.size; omega) (fun k hk => (hown.lt k hk).1)).setCell (p := ⟨b, 1, none⟩) hB _

theorem built_alloc {B b : Nat} {bs : List Value} {w : World} (h : Lib.IsBuilder 50 5 B b bs w) (o : Obj) : Lib.IsBuilder 50 5 B b bs (w.alloc o) := by
  have go : ∀ p, Lib.BuilderAt 50 5 B b p bs w → Lib.BuilderAt 50 5 B b p bs (w.alloc o) := by
    rintro p ⟨hB, v, hb, hown, hne⟩
    exact ⟨hB, v, Blk.alloc (W := w) hb o, hown.alloc _, hne⟩
  rcases h with h | h
  · exact .inl (go _ h)
  · exact .inr (go _ h)
theorem built_later {B b : Nat} {bs : List Value} {w w' : World} (h : Lib.IsBuilder 50 5 B b bs w) (hb' : Below w.heap.size w w') : Lib.IsBuilder 50 5 B b bs w' := by
  have go : ∀ p, Lib.BuilderAt 50 5 B b p bs w → Lib.BuilderAt 50 5 B b p bs w' := by
    rintro p ⟨hB, v, hb, hown, hne⟩
    refine ⟨hB, v, Blk.later (W := w) hb hb', ⟨hown.1, ?_⟩, hne⟩
    rcases hown.2 with h1 | ⟨g, cap, cur, h1, h2, h3, h4⟩
    · exact .inl h1
    · exact .inr ⟨g, cap, cur, h1, h2, Blk.later (W := w) h3 hb', h4⟩
  rcases h with h | h
  · exact .inl (go _ h)
  · exact .inr (go _ h)
theorem built_drewN {B b : Nat} {bs : List Value} {w : World} (h : Lib.IsBuilder 50 5 B b bs w) (n : Nat) : Lib.IsBuilder 50 5 B b bs (w.drewN n) := h
theorem below_drewN {B : Nat} {a w : World} (h : Below B a w) (n : Nat) : Below B a (w.drewN n) := ⟨h.os, h.tape, h.output, h.size, h.block⟩
end Go.Proofs.Qxb6602967a
