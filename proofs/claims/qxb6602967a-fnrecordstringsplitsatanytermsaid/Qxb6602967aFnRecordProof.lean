import Derived.Test.Qxb6602967aOpen
import Derived.Test.Qxb6602967aLaw
namespace Go.Proofs.Qxb6602967a.fnRecordStringSplitsAtAnyTerm
open Go.ChangeShapes Go.WideShapes Go.ChangeAt Go.RowKit Go.Kx
set_option linter.unusedVariables false

set_option maxRecDepth 100000 in
theorem lifted (os : Os) (started : os.Started) (H : Type) (enc : TypeId × Value → H) :
    ReturnsInHanded {} Try.checked os 9 .any (Rows.fnRecordStringSplitsAtAnyTermSpec.pre6 enc Try.prog Try.f9 Rows.fnRecordStringSplitsAtAnyTermRow.domain false) (Rows.fnRecordStringSplitsAtAnyTermSpec.post enc Try.prog Try.f9 false true false false) := by
  refine returnsInHanded_of_change (C := Try.checked) own started (by kernel_rfl) Try.func9
    (ChangeSpec.witness6 (enc := enc) (C := Try.checked) false ⟨#[], #[.slice none 0 0, .slice none 0 0, .slice none 0 0, .slice none 0 0, .slice none 0 0, .slice none 0 0, .slice none 0 0, .slice none 0 0, .slice none 0 0, .slice none 0 0, .int .i64 0, .bool false], []⟩ 8 (by kernel_rfl) (by kernel_rfl) (by kernel_rfl) (by kernel_rfl)) ?_
  intro W base args ds gs before hval0 hW hcnd _
  have hval : ∀ (j : Nat) t v, Try.f9.params[j]? = some t → args[j]? = some v → Value.okWide Try.prog W .any base t v := hval0
  have hW' := hW
  obtain ⟨p, q, hA0, hV, rfl, hfz, hnd⟩ := hW
  have hA : DataW.TrodAll enc Try.prog W 0 (fun _ => true) true Try.f9.params.toList args.toList ds p := hA0
  rw [Try.params9] at hA hval
  obtain ⟨v0, vs0, d0, ds0, p0, q0, hargs, rfl, rfl, h0, r0⟩ := trodAll_cons hA
  obtain ⟨v1, vs1, d1, ds1, p1, q1, rfl, rfl, rfl, h1, r1⟩ := trodAll_cons r0
  obtain ⟨v2, vs2, d2, ds2, p2, q2, rfl, rfl, rfl, h2, r2⟩ := trodAll_cons r1
  obtain ⟨v3, vs3, d3, ds3, p3, q3, rfl, rfl, rfl, h3, r3⟩ := trodAll_cons r2
  obtain ⟨v4, vs4, d4, ds4, p4, q4, rfl, rfl, rfl, h4, r4⟩ := trodAll_cons r3
  obtain ⟨v5, vs5, d5, ds5, p5, q5, rfl, rfl, rfl, h5, r5⟩ := trodAll_cons r4
  obtain ⟨v6, vs6, d6, ds6, p6, q6, rfl, rfl, rfl, h6, r6⟩ := trodAll_cons r5
  obtain ⟨v7, vs7, d7, ds7, p7, q7, rfl, rfl, rfl, h7, r7⟩ := trodAll_cons r6
  obtain ⟨v8, vs8, d8, ds8, p8, q8, rfl, rfl, rfl, h8, r8⟩ := trodAll_cons r7
  obtain ⟨v9, vs9, d9, ds9, p9, q9, rfl, rfl, rfl, h9, r9⟩ := trodAll_cons r8
  obtain ⟨v10, vs10, d10, ds10, p10, q10, rfl, rfl, rfl, h10, r10⟩ := trodAll_cons r9
  obtain ⟨v11, vs11, d11, ds11, p11, q11, rfl, rfl, rfl, h11, r11⟩ := trodAll_cons r10
  obtain ⟨rfl, rfl, rfl⟩ := trodAll_nil r11
  obtain rfl : args = #[v0, v1, v2, v3, v4, v5, v6, v7, v8, v9, v10, v11] := by cases args; simp_all
  obtain ⟨rfl, rfl⟩ := trodVars_none hV
  obtain ⟨a0, n0, c0, rfl⟩ := okWide_slice Try.underlying29 (hval 0 29 v0 rfl rfl)
  have k0 := h0
  have lt0 : ∀ x ∈ p0, x.block < W.heap.size := by obtain ⟨m, hm⟩ := k0; exact DataW.trod_lt m _ _ _ hm
  obtain ⟨z0, r0w⟩ := open_brow Try.underlying29 Try.underlying4 (by kernel_rfl) h0
  obtain ⟨a1, n1, c1, rfl⟩ := okWide_slice Try.underlying30 (hval 1 30 v1 rfl rfl)
  have k1 := h1
  have lt1 : ∀ x ∈ p1, x.block < W.heap.size := by obtain ⟨m, hm⟩ := k1; exact DataW.trod_lt m _ _ _ hm
  obtain ⟨z1, r1w, b1⟩ := open_row Try.underlying30 Try.underlying3 (by kernel_rfl) (by decide) h1
  obtain ⟨a2, n2, c2, rfl⟩ := okWide_slice Try.underlying31 (hval 2 31 v2 rfl rfl)
  have k2 := h2
  have lt2 : ∀ x ∈ p2, x.block < W.heap.size := by obtain ⟨m, hm⟩ := k2; exact DataW.trod_lt m _ _ _ hm
  obtain ⟨z2, r2w⟩ := open_srow Try.underlying31 Try.underlying9 (by kernel_rfl) h2
  obtain ⟨a3, n3, c3, rfl⟩ := okWide_slice Try.underlying31 (hval 3 31 v3 rfl rfl)
  have k3 := h3
  have lt3 : ∀ x ∈ p3, x.block < W.heap.size := by obtain ⟨m, hm⟩ := k3; exact DataW.trod_lt m _ _ _ hm
  obtain ⟨z3, r3w⟩ := open_srow Try.underlying31 Try.underlying9 (by kernel_rfl) h3
  obtain ⟨a4, n4, c4, rfl⟩ := okWide_slice Try.underlying31 (hval 4 31 v4 rfl rfl)
  have k4 := h4
  have lt4 : ∀ x ∈ p4, x.block < W.heap.size := by obtain ⟨m, hm⟩ := k4; exact DataW.trod_lt m _ _ _ hm
  obtain ⟨z4, r4w⟩ := open_srow Try.underlying31 Try.underlying9 (by kernel_rfl) h4
  obtain ⟨a5, n5, c5, rfl⟩ := okWide_slice Try.underlying29 (hval 5 29 v5 rfl rfl)
  have k5 := h5
  have lt5 : ∀ x ∈ p5, x.block < W.heap.size := by obtain ⟨m, hm⟩ := k5; exact DataW.trod_lt m _ _ _ hm
  obtain ⟨z5, r5w⟩ := open_brow Try.underlying29 Try.underlying4 (by kernel_rfl) h5
  obtain ⟨a6, n6, c6, rfl⟩ := okWide_slice Try.underlying30 (hval 6 30 v6 rfl rfl)
  have k6 := h6
  have lt6 : ∀ x ∈ p6, x.block < W.heap.size := by obtain ⟨m, hm⟩ := k6; exact DataW.trod_lt m _ _ _ hm
  obtain ⟨z6, r6w, b6⟩ := open_row Try.underlying30 Try.underlying3 (by kernel_rfl) (by decide) h6
  obtain ⟨a7, n7, c7, rfl⟩ := okWide_slice Try.underlying31 (hval 7 31 v7 rfl rfl)
  have k7 := h7
  have lt7 : ∀ x ∈ p7, x.block < W.heap.size := by obtain ⟨m, hm⟩ := k7; exact DataW.trod_lt m _ _ _ hm
  obtain ⟨z7, r7w⟩ := open_srow Try.underlying31 Try.underlying9 (by kernel_rfl) h7
  obtain ⟨a8, n8, c8, rfl⟩ := okWide_slice Try.underlying31 (hval 8 31 v8 rfl rfl)
  have k8 := h8
  have lt8 : ∀ x ∈ p8, x.block < W.heap.size := by obtain ⟨m, hm⟩ := k8; exact DataW.trod_lt m _ _ _ hm
  obtain ⟨z8, r8w⟩ := open_srow Try.underlying31 Try.underlying9 (by kernel_rfl) h8
  obtain ⟨a9, n9, c9, rfl⟩ := okWide_slice Try.underlying31 (hval 9 31 v9 rfl rfl)
  have k9 := h9
  have lt9 : ∀ x ∈ p9, x.block < W.heap.size := by obtain ⟨m, hm⟩ := k9; exact DataW.trod_lt m _ _ _ hm
  obtain ⟨z9, r9w⟩ := open_srow Try.underlying31 Try.underlying9 (by kernel_rfl) h9
  obtain ⟨a10, rfl, rfl, rfl, w10⟩ := open_int Try.underlying3 (hval 10 3 v10 rfl rfl) h10
  obtain ⟨a11, rfl, rfl, rfl⟩ := open_bool Try.underlying4 (hval 11 4 v11 rfl rfl) h11
  clear hA0 hval0
  refine (law a10 a11 a0 a1 a2 a3 a4 a5 a6 a7 a8 a9 n0 n1 n2 n3 n4 n5 n6 n7 n8 n9 c0 c1 c2 c3 c4 c5 c6 c7 c8 c9 z0 z5 z1 z6 z2 z3 z4 z7 z8 z9 W r0w r1w r2w r3w r4w r5w r6w r7w r8w r9w ).mono fun e W' ⟨he, bel⟩ => ?_
  subst he
  exact ⟨_, rfl, _, _, _, [], _, [], hW', trodAll_mk1 (shut_bool Try.underlying4 _), (trodAll_cons_mk (Below.trod laidOut (by kernel_rfl) (of_decide_eq_true (by kernel_rfl)) k0 bel lt0) (trodAll_cons_mk (Below.trod laidOut (by kernel_rfl) (of_decide_eq_true (by kernel_rfl)) k1 bel lt1) (trodAll_cons_mk (Below.trod laidOut (by kernel_rfl) (of_decide_eq_true (by kernel_rfl)) k2 bel lt2) (trodAll_cons_mk (Below.trod laidOut (by kernel_rfl) (of_decide_eq_true (by kernel_rfl)) k3 bel lt3) (trodAll_cons_mk (Below.trod laidOut (by kernel_rfl) (of_decide_eq_true (by kernel_rfl)) k4 bel lt4) (trodAll_cons_mk (Below.trod laidOut (by kernel_rfl) (of_decide_eq_true (by kernel_rfl)) k5 bel lt5) (trodAll_cons_mk (Below.trod laidOut (by kernel_rfl) (of_decide_eq_true (by kernel_rfl)) k6 bel lt6) (trodAll_cons_mk (Below.trod laidOut (by kernel_rfl) (of_decide_eq_true (by kernel_rfl)) k7 bel lt7) (trodAll_cons_mk (Below.trod laidOut (by kernel_rfl) (of_decide_eq_true (by kernel_rfl)) k8 bel lt8) (trodAll_cons_mk (Below.trod laidOut (by kernel_rfl) (of_decide_eq_true (by kernel_rfl)) k9 bel lt9) (trodAll_cons_mk (shut_int Try.underlying3 w10) (trodAll_cons_mk (shut_bool Try.underlying4 _) trodAll_mk0)))))))))))), rfl, bel.frame _, fun h => by cases h⟩

theorem over : Rows.fnRecordStringSplitsAtAnyTermRow.holds Try.pinned (OpenSpec.ofChange Rows.fnRecordStringSplitsAtAnyTermSpec) :=
  OpenClaim.holds_of_wide 9 Try.f9 rfl rfl rfl rfl rfl rfl rfl ⟨rfl, rfl, rfl, rfl, rfl⟩ rfl rfl rfl rfl rfl (by kernel_rfl) Try.func9 (by kernel_rfl)
    (of_decide_eq_true (by kernel_rfl)) (by unfold Func.isWrapper; first | (rw [if_pos (by decide +kernel)]; kernel_rfl) | (rw [if_neg (by decide +kernel)]; exact ⟨rfl, rfl⟩))
    (fun os started H enc _ => lifted os started H enc)

/-- THE STATEMENT -/
theorem proved : Rows.FnRecordStringSplitsAtAnyTermSaid := over
end Go.Proofs.Qxb6602967a.fnRecordStringSplitsAtAnyTerm
