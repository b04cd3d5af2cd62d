import Derived.Test.Qxb6602671aRows
import Derived.Test.Qxb6602671aLaw
import Derived.ProofKit
import Derived.OpenShut
import Derived.ShutString
import Derived.ChangeOld
import Derived.Below
namespace Go.Proofs.Qxb6602671a.fnTakeType3
open Go.ChangeShapes Go.WideShapes Go.ChangeAt Go.RowKit
open Go.ChangeMaps (open_string shut_string)
set_option linter.unusedVariables false

theorem own : ownKnob Try.prog.godebug = none := by kernel_rfl
theorem laidOut : laidOutB Try.prog = true := by kernel_rfl
theorem cells37 : Try.prog.cellsOf 37 = 9 := by kernel_rfl
theorem cells39 : Try.prog.cellsOf 39 = 4 := by kernel_rfl
theorem cells27 : Try.prog.cellsOf 27 = 1 := by kernel_rfl
theorem cells5 : Try.prog.cellsOf 5 = 1 := by kernel_rfl
theorem cells4 : Try.prog.cellsOf 4 = 1 := by kernel_rfl
theorem cells22 : Try.prog.cellsOf 22 = 1 := by kernel_rfl

theorem array9 {α : Type} {cs : Array α} (h : cs.size = 9) : ∃ c0 c1 c2 c3 c4 c5 c6 c7 c8, cs = #[c0, c1, c2, c3, c4, c5, c6, c7, c8] := by
  obtain ⟨l⟩ := cs
  match l, h with
  | [c0, c1, c2, c3, c4, c5, c6, c7, c8], _ => exact ⟨c0, c1, c2, c3, c4, c5, c6, c7, c8, rfl⟩
theorem array4 {α : Type} {cs : Array α} (h : cs.size = 4) : ∃ c0 c1 c2 c3, cs = #[c0, c1, c2, c3] := by
  obtain ⟨l⟩ := cs
  match l, h with
  | [c0, c1, c2, c3], _ => exact ⟨c0, c1, c2, c3, rfl⟩
theorem at_some {α : Type} {xs : List α} {n i : Nat} (h : xs.length = n) (hi : i < n) : ∃ y, xs[i]? = some y := ⟨xs[i]'(by omega), List.getElem?_eq_getElem _⟩

section
variable {H : Type} {enc : TypeId × Value → H} {W : World} {base b0 : Nat} {held : Bool} {r : Reach} {v : Value} {d : DataW H} {p : List MemPlace}

theorem pick {n off : Nat} {t : TypeId} {l : List Value} {y : DataW H × List MemPlace} (hc : Try.prog.cellsOf t = 1) (h : DataW.trod enc Try.prog W base (fun _ => true) held n t (List.take (Try.prog.cellsOf t) (List.drop off l)) = some y) :
    DataW.trod enc Try.prog W base (fun _ => true) held n t (List.take 1 (List.drop off l)) = some y := by rw [hc] at h; exact h

theorem open_bytes {fuel : Nat} {c : Value} {y : DataW H × List MemPlace} (h : DataW.trod enc Try.prog W base (fun _ => true) held fuel 22 [c] = some y) :
    ∃ a n k zs, c = .slice a n k ∧ Bs W a n k zs := by
  rcases open_ints Try.underlying22 Try.underlying5 cells5 h with ⟨hcs, _⟩ | ⟨x, l, k, zs, hcs, _, hl, hm, hz, _, hcell, hwz⟩
  · simp at hcs
    exact ⟨none, 0, 0, [], hcs, rfl, by simp, by simp⟩
  · simp at hcs hz
    refine ⟨some x, l, k, zs.take l, hcs, by simp; omega, by simp, fun z hx j hj => ?_⟩
    obtain rfl := Option.some.inj hx
    rw [hcell j (by omega)]
    simp [List.getD, hj]

theorem open37 (hv : Value.okWide Try.prog W r b0 37 v) (h : DataW.Trod enc Try.prog W base (fun _ => true) held 37 v d p) :
    ∃ (v0 v1 v2 v3 v4 v5 : Int) (x6 x7 : Bool) (a : Option Addr) (n c : Nat) (zs : List Int),
      v = .agg #[.int .u32 v0, .int .u32 v1, .int .u32 v2, .int .u32 v3, .int .u8 v4, .int .u32 v5, .bool x6, .bool x7, .slice a n c] ∧ Bs W a n c zs := by
  obtain ⟨cs, rfl, hsz⟩ := okWide_struct Try.underlying37 hv
  obtain ⟨c0, c1, c2, c3, c4, c5, c6, c7, c8, rfl⟩ := array9 (hsz.trans cells37)
  obtain ⟨fuel, hf⟩ := h
  obtain ⟨xs, n, _, _, _, hlen, hall⟩ := DataW.trod_struct Try.underlying37 hf
  have hl : xs.length = 9 := hlen
  obtain ⟨y0, e0⟩ := at_some hl (show 0 < 9 by omega)
  obtain ⟨y1, e1⟩ := at_some hl (show 1 < 9 by omega)
  obtain ⟨y2, e2⟩ := at_some hl (show 2 < 9 by omega)
  obtain ⟨y3, e3⟩ := at_some hl (show 3 < 9 by omega)
  obtain ⟨y4, e4⟩ := at_some hl (show 4 < 9 by omega)
  obtain ⟨y5, e5⟩ := at_some hl (show 5 < 9 by omega)
  obtain ⟨y6, e6⟩ := at_some hl (show 6 < 9 by omega)
  obtain ⟨y7, e7⟩ := at_some hl (show 7 < 9 by omega)
  obtain ⟨y8, e8⟩ := at_some hl (show 8 < 9 by omega)
  have g0 : DataW.trod enc Try.prog W base (fun _ => true) held n 27 [c0] = some y0 := pick cells27 ((hall 0 _ rfl).trans e0)
  have g1 : DataW.trod enc Try.prog W base (fun _ => true) held n 27 [c1] = some y1 := pick cells27 ((hall 1 _ rfl).trans e1)
  have g2 : DataW.trod enc Try.prog W base (fun _ => true) held n 27 [c2] = some y2 := pick cells27 ((hall 2 _ rfl).trans e2)
  have g3 : DataW.trod enc Try.prog W base (fun _ => true) held n 27 [c3] = some y3 := pick cells27 ((hall 3 _ rfl).trans e3)
  have g4 : DataW.trod enc Try.prog W base (fun _ => true) held n 5 [c4] = some y4 := pick cells5 ((hall 4 _ rfl).trans e4)
  have g5 : DataW.trod enc Try.prog W base (fun _ => true) held n 27 [c5] = some y5 := pick cells27 ((hall 5 _ rfl).trans e5)
  have g6 : DataW.trod enc Try.prog W base (fun _ => true) held n 4 [c6] = some y6 := pick cells4 ((hall 6 _ rfl).trans e6)
  have g7 : DataW.trod enc Try.prog W base (fun _ => true) held n 4 [c7] = some y7 := pick cells4 ((hall 7 _ rfl).trans e7)
  have g8 : DataW.trod enc Try.prog W base (fun _ => true) held n 22 [c8] = some y8 := pick cells22 ((hall 8 _ rfl).trans e8)
  obtain ⟨v0, r0, _, _⟩ := DataW.trod_int Try.underlying27 g0
  obtain ⟨v1, r1, _, _⟩ := DataW.trod_int Try.underlying27 g1
  obtain ⟨v2, r2, _, _⟩ := DataW.trod_int Try.underlying27 g2
  obtain ⟨v3, r3, _, _⟩ := DataW.trod_int Try.underlying27 g3
  obtain ⟨v4, r4, _, _⟩ := DataW.trod_int Try.underlying5 g4
  obtain ⟨v5, r5, _, _⟩ := DataW.trod_int Try.underlying27 g5
  obtain ⟨x6, r6, _⟩ := DataW.trod_bool Try.underlying4 g6
  obtain ⟨x7, r7, _⟩ := DataW.trod_bool Try.underlying4 g7
  obtain ⟨a, m, c, zs, r8, hB⟩ := open_bytes g8
  simp at r0 r1 r2 r3 r4 r5 r6 r7
  subst r0 r1 r2 r3 r4 r5 r6 r7 r8
  exact ⟨v0, v1, v2, v3, v4, v5, x6, x7, a, m, c, zs, rfl, hB⟩

theorem open39 (hv : Value.okWide Try.prog W r b0 39 v) (h : DataW.Trod enc Try.prog W base (fun _ => true) held 39 v d p) :
    ∃ (v0 v1 v2 v3 : Int), v = .agg #[.int .u32 v0, .int .u32 v1, .int .u8 v2, .int .u32 v3] := by
  obtain ⟨cs, rfl, hsz⟩ := okWide_struct Try.underlying39 hv
  obtain ⟨c0, c1, c2, c3, rfl⟩ := array4 (hsz.trans cells39)
  obtain ⟨fuel, hf⟩ := h
  obtain ⟨xs, n, _, _, _, hlen, hall⟩ := DataW.trod_struct Try.underlying39 hf
  have hl : xs.length = 4 := hlen
  obtain ⟨y0, e0⟩ := at_some hl (show 0 < 4 by omega)
  obtain ⟨y1, e1⟩ := at_some hl (show 1 < 4 by omega)
  obtain ⟨y2, e2⟩ := at_some hl (show 2 < 4 by omega)
  obtain ⟨y3, e3⟩ := at_some hl (show 3 < 4 by omega)
  have g0 : DataW.trod enc Try.prog W base (fun _ => true) held n 27 [c0] = some y0 := pick cells27 ((hall 0 _ rfl).trans e0)
  have g1 : DataW.trod enc Try.prog W base (fun _ => true) held n 27 [c1] = some y1 := pick cells27 ((hall 1 _ rfl).trans e1)
  have g2 : DataW.trod enc Try.prog W base (fun _ => true) held n 5 [c2] = some y2 := pick cells5 ((hall 2 _ rfl).trans e2)
  have g3 : DataW.trod enc Try.prog W base (fun _ => true) held n 27 [c3] = some y3 := pick cells27 ((hall 3 _ rfl).trans e3)
  obtain ⟨v0, r0, _, _⟩ := DataW.trod_int Try.underlying27 g0
  obtain ⟨v1, r1, _, _⟩ := DataW.trod_int Try.underlying27 g1
  obtain ⟨v2, r2, _, _⟩ := DataW.trod_int Try.underlying5 g2
  obtain ⟨v3, r3, _, _⟩ := DataW.trod_int Try.underlying27 g3
  simp at r0 r1 r2 r3
  subst r0 r1 r2 r3
  exact ⟨v0, v1, v2, v3, rfl⟩
end

set_option maxRecDepth 100000 in
theorem lifted (os : Os) (started : os.Started) (H : Type) (enc : TypeId × Value → H) :
    ReturnsInHanded {} Try.checked os 5 .any (Rows.fnTakeType3RepeatsLatestDeltaSpec.pre6 enc Try.prog Try.f5 Rows.fnTakeType3RepeatsLatestDeltaRow.domain false) (Rows.fnTakeType3RepeatsLatestDeltaSpec.post enc Try.prog Try.f5 false true false false) := by
  refine returnsInHanded_of_change (C := Try.checked) own started (by kernel_rfl) Try.func5
    (ChangeSpec.witness6 (enc := enc) (C := Try.checked) false ⟨#[], #[.agg #[.int .u32 0, .int .u32 0, .int .u32 0, .int .u32 0, .int .u8 0, .int .u32 0, .bool false, .bool false, .slice none 0 0], .agg #[.int .u32 0, .int .u32 0, .int .u8 0, .int .u32 0], .bool false], []⟩ 8 (by kernel_rfl) (by kernel_rfl) (by kernel_rfl) (by kernel_rfl)) ?_
  intro W base args ds gs before hval0 hW hcnd _
  have hval : ∀ (j : Nat) t v, Try.f5.params[j]? = some t → args[j]? = some v → Value.okWide Try.prog W .any base t v := hval0
  have hW' := hW
  obtain ⟨p, q, hA0, hV, rfl, hfz, hnd⟩ := hW
  have hA : DataW.TrodAll enc Try.prog W 0 (fun _ => true) true Try.f5.params.toList args.toList ds p := hA0
  rw [Try.params5] at hA hval
  obtain ⟨v0, vs0, d0, ds0, p0, q0, hargs, rfl, rfl, h0, r0⟩ := trodAll_cons hA
  obtain ⟨v1, vs1, d1, ds1, p1, q1, rfl, rfl, rfl, h1, r1⟩ := trodAll_cons r0
  obtain ⟨v2, vs2, d2, ds2, p2, q2, rfl, rfl, rfl, h2, r2⟩ := trodAll_cons r1
  obtain ⟨rfl, rfl, rfl⟩ := trodAll_nil r2
  obtain rfl : args = #[v0, v1, v2] := by cases args; simp_all
  obtain ⟨rfl, rfl⟩ := trodVars_none hV
  have k0 := h0
  have lt0 : ∀ x ∈ p0, x.block < W.heap.size := by obtain ⟨m, hm⟩ := k0; exact DataW.trod_lt m _ _ _ hm
  have k1 := h1
  have lt1 : ∀ x ∈ p1, x.block < W.heap.size := by obtain ⟨m, hm⟩ := k1; exact DataW.trod_lt m _ _ _ hm
  obtain ⟨i0, i1, i2, i3, i4, i5, x6, x7, a, n, c, zs, rfl, hB⟩ := open37 (hval 0 37 v0 rfl rfl) h0
  obtain ⟨t0, t1, t2, t3, rfl⟩ := open39 (hval 1 39 v1 rfl rfl) h1
  obtain ⟨a2, rfl, rfl, rfl⟩ := open_bool Try.underlying4 (hval 2 4 v2 rfl rfl) h2
  clear hA0 hval0
  have walk : Calls Try.prog 5 #[.agg #[.int .u32 i0, .int .u32 i1, .int .u32 i2, .int .u32 i3, .int .u8 i4, .int .u32 i5, .bool x6, .bool x7, .slice a n c], .agg #[.int .u32 t0, .int .u32 t1, .int .u8 t2, .int .u32 t3], .bool a2] W fun e w' =>
      e = .returned (.bool true) ∧ Below W.heap.size W w' := by
    by_cases hn : n ≤ 1048576
    · exact law_any i0 i1 i2 i3 i4 i5 x6 x7 a n c zs t0 t1 t2 t3 a2 W hn hB
    · exact law_big i0 i1 i2 i3 i4 i5 x6 x7 a n c t0 t1 t2 t3 a2 W hn
  refine walk.mono fun e W' ⟨he, bel⟩ => ?_
  subst he
  exact ⟨_, rfl, _, _, _, [], _, [], hW', trodAll_mk1 (shut_bool Try.underlying4 _), (trodAll_cons_mk (Below.trod laidOut (by kernel_rfl) (of_decide_eq_true (by kernel_rfl)) k0 bel lt0) (trodAll_cons_mk (Below.trod laidOut (by kernel_rfl) (of_decide_eq_true (by kernel_rfl)) k1 bel lt1) (trodAll_cons_mk (shut_bool Try.underlying4 _) trodAll_mk0))), rfl, bel.frame _, fun h => by cases h⟩

theorem over : Rows.fnTakeType3RepeatsLatestDeltaRow.holds Try.pinned (OpenSpec.ofChange Rows.fnTakeType3RepeatsLatestDeltaSpec) :=
  OpenClaim.holds_of_wide 5 Try.f5 rfl rfl rfl rfl rfl rfl rfl ⟨rfl, rfl, rfl, rfl, rfl⟩ rfl rfl rfl rfl rfl (by kernel_rfl) Try.func5 (by kernel_rfl)
    (of_decide_eq_true (by kernel_rfl)) (by unfold Func.isWrapper; first | (rw [if_pos (by decide +kernel)]; kernel_rfl) | (rw [if_neg (by decide +kernel)]; exact ⟨rfl, rfl⟩))
    (fun os started H enc _ => lifted os started H enc)

/-- THE STATEMENT -/
theorem proved : Rows.FnTakeType3RepeatsLatestDeltaSaid := over
end Go.Proofs.Qxb6602671a.fnTakeType3
