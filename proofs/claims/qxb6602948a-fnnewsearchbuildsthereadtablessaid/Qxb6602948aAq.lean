import Derived.Test.Qxb6602948aNq
import Derived.Test.Qxb6602948aAp
import Derived.Deep.AppendLies
/- THE RUNS OF THE OPERATIONS OF 's.f[t] = append(s.f[t], x)', each by itself -/
namespace Go.Proofs.Qxb6602948a
open Go.RowKit Go.Kx Go.Maps
set_option linter.unusedVariables false

section
variable (ρ : Operand → Value) (dst : Option Tmp) (ty : TypeId) (pos : String) (af : Array Edge) (W : World)
theorem ex_move (s : Operand) (v : Value) (h : ρ s = v) : (execOp ρ { dst := dst, op := .move s, type := ty, pos := pos, after := af, guard := none }).run Try.prog W = .ok (.value v) W := by
  go_simp
theorem ex_nilc (d : Nat) (a : Addr) (h : ρ (.tmp d) = .pointer (some a)) : (execOp ρ { dst := dst, op := .nilCheck (.tmp d), type := ty, pos := pos, after := af, guard := none }).run Try.prog W = .ok (.value (.pointer (some a))) W := by
  go_simp
theorem ex_field2 (d S : Nat) (h : ρ (.tmp d) = .pointer (some ⟨S, 0, none⟩)) : (execOp ρ { dst := dst, op := .fieldAddr 67 (.tmp d) 2, type := ty, pos := pos, after := af, guard := none }).run Try.prog W = .ok (.value (.pointer (some ⟨S, 2, none⟩))) W := by
  go_simp
theorem ex_field3 (d S : Nat) (h : ρ (.tmp d) = .pointer (some ⟨S, 0, none⟩)) : (execOp ρ { dst := dst, op := .fieldAddr 67 (.tmp d) 3, type := ty, pos := pos, after := af, guard := none }).run Try.prog W = .ok (.value (.pointer (some ⟨S, 3, none⟩))) W := by
  go_simp
theorem ex_field59 (d S : Nat) (h : ρ (.tmp d) = .pointer (some ⟨S, 0, none⟩)) : (execOp ρ { dst := dst, op := .fieldAddr 59 (.tmp d) 1, type := ty, pos := pos, after := af, guard := none }).run Try.prog W = .ok (.value (.pointer (some ⟨S, 1, none⟩))) W := by
  go_simp
theorem ex_load41 (d b k n : Nat) (a : Option Addr) (c : Nat) (h : ρ (.tmp d) = .pointer (some ⟨b, k, none⟩)) (hc : W.cell? ⟨b, k, none⟩ = some (.slice a n c)) : (execOp ρ { dst := dst, op := .load 41 (.tmp d), type := ty, pos := pos, after := af, guard := none }).run Try.prog W = .ok (.value (.slice a n c)) W := by
  go_simp
theorem ex_load22 (d b k n : Nat) (a : Option Addr) (c : Nat) (h : ρ (.tmp d) = .pointer (some ⟨b, k, none⟩)) (hc : W.cell? ⟨b, k, none⟩ = some (.slice a n c)) : (execOp ρ { dst := dst, op := .load 22 (.tmp d), type := ty, pos := pos, after := af, guard := none }).run Try.prog W = .ok (.value (.slice a n c)) W := by
  go_simp
theorem ex_load21 (d b k : Nat) (y : Int) (h : ρ (.tmp d) = .pointer (some ⟨b, k, none⟩)) (hc : W.cell? ⟨b, k, none⟩ = some (.int .i32 y)) : (execOp ρ { dst := dst, op := .load 21 (.tmp d), type := ty, pos := pos, after := af, guard := none }).run Try.prog W = .ok (.value (.int .i32 y)) W := by
  go_simp
theorem ex_index (d e b n t : Nat) (h : ρ (.tmp d) = .slice (some ⟨b, 0, none⟩) n n) (h2 : ρ (.tmp e) = .int .i64 (t : Int)) (kt : (t : Int) < (n : Int)) : (execOp ρ { dst := dst, op := .indexAddr 41 (.tmp d) (.tmp e), type := ty, pos := pos, after := af, guard := none }).run Try.prog W = .ok (.value (.pointer (some ⟨b, t, none⟩))) W := by
  go_simp
theorem ex_conv (d : Nat) (y : Int) (h : ρ (.tmp d) = .int .i32 y) (hyw : IntKind.i64.wrap y = y) : (execOp ρ { dst := dst, op := .convert 21 3 (.tmp d), type := ty, pos := pos, after := af, guard := none }).run Try.prog W = .ok (.value (.int .i64 y)) W := by
  go_simp
theorem ex_build (d : Nat) (y : Int) (h : ρ (.tmp d) = .int .i64 y) : (execOp ρ { dst := dst, op := .buildSlice 22 1 #[(0, .tmp d)], type := ty, pos := pos, after := af, guard := none }).run Try.prog W = .ok (.value (.slice (some ⟨W.heap.size, 0, none⟩) 1 1)) (W.alloc (.cells #[.int .i64 y] 3)) := by
  go_simp
theorem ex_append (d e : Nat) (v v' u : Value) (W' : World) (h : ρ (.tmp d) = v) (h2 : ρ (.tmp e) = v') (hr : (Builtin.append_ #[22, 22] ty #[v, v']).run Try.prog W = .ok u W') : (execOp ρ { dst := dst, op := .call { callee := .builtin .append, args := #[.tmp d, .tmp e], argTypes := #[22, 22] }, type := ty, pos := pos, after := af, guard := none }).run Try.prog W = .ok (.value u) W' := by
  unfold execOp
  simp only [resolve, invoke, builtin, Sem.run_bind, Sem.run_pure, Result.andThen_ok, List.map_toArray, List.map_cons, List.map_nil, h, h2, hr]
theorem ex_store (d e b k : Nat) (a : Option Addr) (n c : Nat) (u0 : Value) (h : ρ (.tmp d) = .pointer (some ⟨b, k, none⟩)) (h2 : ρ (.tmp e) = .slice a n c) (hc : W.cell? ⟨b, k, none⟩ = some u0) (hf : W.frozen? ⟨b, k, none⟩ = false) : (execOp ρ { dst := dst, op := .store 22 (.tmp d) (.tmp e), type := ty, pos := pos, after := af, guard := none }).run Try.prog W = .ok .skip (W.setCell ⟨b, k, none⟩ (.slice a n c)) := by
  go_simp
theorem put_none (a : Act) (v : Value) : a.put none v = a := rfl
theorem wpOp_skip {P : Program} {ops : Array Oper} {Q : Exit → Act → World → Prop} {i : Nat} {o : Oper} {a : Act} {w w' : World} {K : Act → World → Prop} (ho : ops[i]? = some o) (hg : o.guard = none) (hr : (execOp a.eval o).run P w = .ok .skip w') (hK : K (a.put o.dst undef) w') : wpOp P ops Q i K a w := by
  unfold wpOp
  simp only [ho]
  have hw : Region.wanted o (yielded ops a.tmps) = true := by unfold Region.wanted; rw [hg]
  rw [if_pos hw]
  refine .inl ?_
  unfold Oper.wp
  rw [hr]
  exact hK
end

section
variable {cst : Nat → Option (Nat × Value)} {iB iA iS dB dA : Nat} {w1 w w' : World} {o : Obj} {G : Value → World → Prop} {T : Value → World → World} {L L' : Nat → Bool} {x : Nat → Value}
theorem Ap.within (h : Ap cst iB iA iS dB dA w1 o G T L x w) (hS : L iS = false) {C : World → Prop} (c0 : C w1) (c1 : C (w1.alloc o)) (c2 : ∀ v w', G v w' → C w') : C w := by
  cases q : L iB with
  | false => rw [h.s0 q]; exact c0
  | true =>
    cases q2 : L iA with
    | false => rw [(h.s1 q q2).1]; exact c1
    | true => exact c2 _ _ (h.s2 q2 hS)
end
def cstV (V : Nat → Option Value) (d0 : Nat) : Nat → Option (Nat × Value) := fun i => (V i).map fun v => (d0 + i, v)
theorem cstV_inj {V : Nat → Option Value} {d0 i j : Nat} {u : Value} (h : cstV V d0 j = some (d0 + i, u)) : j = i := by
  unfold cstV at h
  cases q : V j with
  | none => rw [q] at h; simp at h
  | some v => rw [q] at h; simp at h; exact h.1
section
variable {V : Nat → Option Value} {d0 iB iA iS : Nat} {w1 w w' : World} {o : Obj} {G : Value → World → Prop} {T : Value → World → World} {L L' : Nat → Bool} {x : Nat → Value}
theorem apv_const (h : Ap (cstV V d0) iB iA iS (d0 + iB) (d0 + iA) w1 o G T L x w) (i : Nat) {v : Value} (hv : V i = some v) (hi : i ≠ iB ∧ i ≠ iA ∧ i ≠ iS) (hL : ∀ j, j ≠ i → L' j = L j) : Ap (cstV V d0) iB iA iS (d0 + iB) (d0 + iA) w1 o G T L' (upd x (d0 + i) v) w :=
  h.const (by unfold cstV; rw [hv]; rfl) (fun j u hj => cstV_inj hj) ⟨by have := hi.1; omega, by have := hi.2.1; omega⟩ hi hL
theorem apv_known (h : Ap (cstV V d0) iB iA iS (d0 + iB) (d0 + iA) w1 o G T L x w) (i : Nat) {v : Value} (hv : V i = some v) (hl : L i = true) : x (d0 + i) = v :=
  h.c i (d0 + i) v (by unfold cstV; rw [hv]; rfl) hl
theorem apv_no (hV : V iB = none) : ∀ j u, cstV V d0 j ≠ some (d0 + iB, u) := fun j u h => by
  have := cstV_inj h
  subst this
  unfold cstV at h
  rw [hV] at h
  simp at h
end

theorem Pst.drew {w wr : World} {H n items S p s t f q d Bm : Nat} {us uf : Nat → Value} {ls : Nat → List Int} {frd : Nat → Int} {b9 rk : Nat} {xx yy : Int} {D : DataW Unit} (h : Pst w wr H n items S p s t f q d Bm us uf ls frd b9 xx yy rk D) : Pst w wr.drew H n items S p s t f q d Bm us uf ls frd b9 xx yy rk D := ⟨h.ns.drew, h.fb, h.b, h.om, h.gt⟩

theorem run_app {w wr : World} {H n items S p s t f q d Bm : Nat} {us : Nat → Value} {ls : Nat → List Int} {frd : Nat → Int} {nv pv : Value} (h : Nst w wr H n items S p s t f q d Bm us us ls frd nv pv) {j l c : Nat} {a : Option Addr} (z : Int) (hj : j < 2 * n + 3) (hv : us j = .slice a l c) (hl : (ls j).length = l) (lb : l ≤ 1048576) :
    ∃ g cap w8, (Builtin.append_ #[22, 22] 22 #[.slice a l c, .slice (some ⟨wr.heap.size, 0, none⟩) 1 1]).run Try.prog (wr.alloc (.cells #[.int .i64 z] 3)) = .ok (.slice (some ⟨g, 0, none⟩) (l + 1) cap) w8 ∧
      w8.ownsRow (Bm + 1) 3 1 (.slice (some ⟨g, 0, none⟩) (l + 1) cap) (l + 1) ((ls j).map (Value.int .i64) ++ [.int .i64 z]) ∧ (wr.alloc (.cells #[.int .i64 z] 3)).grownBy w8 (Value.slice a l c).ownBlock ∧ ((Value.slice (some ⟨g, 0, none⟩) (l + 1) cap).ownBlock = (Value.slice a l c).ownBlock ∨ (Value.slice (some ⟨g, 0, none⟩) (l + 1) cap).ownBlock = some (wr.heap.size + 1)) := by
  obtain ⟨i3, hi3, hx0, hx1, hx2⟩ := info_parts info3
  have hr := h.fam.row j hj
  rw [hv, hl] at hr
  have hsz := h.sz
  obtain ⟨g, cap, w8, h1, h2, h3, h4, h5⟩ := run_append_lies (P := Try.prog) (wr.alloc (.cells #[.int .i64 z] 3)) 22 22 (Bm + 1) 3 i3 (.int .i64 0) 1 8 Try.underlying22 hi3 hx0 hx1 hx2 rfl (by decide) (.slice a l c) l ((ls j).map (Value.int .i64)) (hr.alloc _) ⟨wr.heap.size, 0, none⟩ 1 1 [.int .i64 z] rfl (cell_one_new wr (.int .i64 z) 3) (by intro u hu; simp at hu; subst hu; rfl) (by omega) (by unfold maxLen; omega) (by omega) (by simp; omega) (wr.heap.size + 1) (by simp)
  refine ⟨g, cap, w8, h1, h2, h3, ?_⟩
  rcases h4 with e | e
  · exact .inl e.symm
  · exact .inr (by simp [Value.ownBlock, e])
end Go.Proofs.Qxb6602948a
